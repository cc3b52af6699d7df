import Derived.Test.YbulkjtoFits2
namespace Go.Proofs.Ybulkjto
open Ieee

/-- A word that is no NaN. -/
def Num (x : Nat) : Prop := (∃ s m i, D.read x = .number s m i) ∨ ∃ s, D.read x = .infinity s

theorem num_word (neg : Bool) (r : Nat) (h : r ≤ 2047 * 2 ^ 52) : Num (D.word neg r) := by
  have hlp : D.leastPlace = -1074 := by decide
  have hbin : D.binade = 2 ^ 52 := rfl
  have hinf : D.infRung = 2047 * 2 ^ 52 := by decide
  have hsw : D.signWeight = 2 ^ 63 := rfl
  have hw : D.word neg r = (if neg then 2 ^ 63 + r else r) := rfl
  have hr : D.word neg r % 2 ^ 63 = r := by
    rw [hw]; cases neg <;> simp <;> omega
  unfold Num
  simp only [Format.read, hsw, hbin, hinf, hlp, hr]
  by_cases h1 : r < 2 ^ 52
  · rw [if_pos h1]; exact .inl ⟨_, _, _, rfl⟩
  · by_cases h2 : r < 2047 * 2 ^ 52
    · rw [if_neg h1, if_pos h2]; exact .inl ⟨_, _, _, rfl⟩
    · rw [if_neg h1, if_neg h2, if_pos (by omega)]; exact .inr ⟨_, rfl⟩

theorem num_nearest (neg : Bool) (m : Nat) (i : Int) : Num (D.nearest neg m i) := by
  have hinf : D.infRung = 2047 * 2 ^ 52 := by decide
  unfold Format.nearest
  dsimp only
  split
  · exact num_word _ _ (by omega)
  · refine num_word _ _ ?_
    rw [hinf]
    exact Nat.min_le_right _ _

theorem num_fl (n : Int) : Num (fl n) := num_nearest _ _ _

theorem mul_num (x y : Nat) {s t : Bool} {m n : Nat} {i j : Int} (h : D.read x = .number s m i) (h' : D.read y = .number t n j) : ∃ z, D.mul x y = some z ∧ Num z := by
  unfold Format.mul
  rw [h, h']
  exact ⟨_, rfl, num_nearest _ _ _⟩

theorem order_num (x y : Nat) (hx : Num x) (hy : Num y) : ∃ o, D.order x y = some o := by
  unfold Format.order
  rcases hx with ⟨s, m, i, hx⟩ | ⟨s, hx⟩ <;> rcases hy with ⟨t, n, j, hy⟩ | ⟨t, hy⟩ <;> rw [hx, hy] <;> exact ⟨_, rfl⟩

theorem order_self_num (x : Nat) (hx : Num x) : D.order x x = some .eq := by
  unfold Format.order
  rcases hx with ⟨s, m, i, hx⟩ | ⟨s, hx⟩ <;> rw [hx] <;> simp [Datum.order]

theorem max_law (x y : Nat) (hx : Num x) (hy : Num y) : ∃ m, (∀ (w : World) ts t, (Builtin.max_ ts t #[.float .f64 x, .float .f64 y]).run Yba.prog w = .ok (.float .f64 m) w) ∧
    D.order m (if (D.order x y == some .gt) then x else y) = some .eq := by
  obtain ⟨o, ho⟩ := order_num x y hx hy
  have ho' : FloatKind.f64.format.order x y = some o := ho
  cases o
  · refine ⟨y, fun w ts t => by simp [Builtin.max_, Builtin.max2, ho'], ?_⟩
    rw [ho]
    exact order_self_num y hy
  · by_cases hn : (FloatKind.f64.decode x).neg = true
    · refine ⟨y, fun w ts t => by simp [Builtin.max_, Builtin.max2, ho', hn], ?_⟩
      rw [ho]
      exact order_self_num y hy
    · refine ⟨x, fun w ts t => by simp [Builtin.max_, Builtin.max2, ho', hn], ?_⟩
      rw [ho]
      exact ho
  · refine ⟨x, fun w ts t => by simp [Builtin.max_, Builtin.max2, ho'], ?_⟩
    rw [ho]
    exact order_self_num x hx

theorem fl_mulc (c : Nat) {s : Bool} {m : Nat} {i : Int} (hc : D.read c = .number s m i) (n : Int) (h : n.natAbs < 2 ^ 40) : ∃ z, D.mul c (fl n) = some z ∧ Num z := by
  obtain ⟨M, j, hr, _, _⟩ := fl_number n h
  exact mul_num _ _ hc hr
theorem fl_mulc' (c : Nat) {s : Bool} {m : Nat} {i : Int} (hc : D.read c = .number s m i) (n : Int) (h : n.natAbs < 2 ^ 40) : ∃ z, D.mul (fl n) c = some z ∧ Num z := by
  obtain ⟨M, j, hr, _, _⟩ := fl_number n h
  exact mul_num _ _ hr hc
theorem read_13 : D.read 4608533498688228557 = .number false 5854679515581645 (-52) := by decide
theorem read_03 : D.read 4599075939470750515 = .number false 5404319552844595 (-54) := by decide
end Go.Proofs.Ybulkjto

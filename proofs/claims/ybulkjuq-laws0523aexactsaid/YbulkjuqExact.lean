/-
  LawS0523AExact, WALKED.
-/
import Derived.Test.YbulkjuqApp
import Derived.BigQuiet
import Derived.Deep.QuietTactic
namespace Go.Proofs.Ybulkjuq
open Go.RowKit Go.Lib

theorem below_drewN {B : Nat} {a w : World} (h : Below B a w) (n : Nat) : Below B a (w.drewN n) := h.trans ⟨rfl, rfl, rfl, Nat.le_refl _, fun _ _ => rfl⟩

theorem exact_long (a0 : Option Addr) (n c : Nat) (s : ByteArray) (w : World) (h : 1024 < n) :
    Calls Yba.prog 3 #[.slice a0 n c, .string s] w fun e w' => e = .returned (.bool true) ∧ Below w.heap.size w w' := by
  go_enter Yba.func3, Yba.ntmps3
  go_wp2
  go_ret
  exact ⟨rfl, Below.refl _ _⟩
theorem exact_long2 (a0 : Option Addr) (n c : Nat) (s : ByteArray) (w : World) (h : n ≤ 1024) (h2 : 1024 < s.size) :
    Calls Yba.prog 3 #[.slice a0 n c, .string s] w fun e w' => e = .returned (.bool true) ∧ Below w.heap.size w w' := by
  go_enter Yba.func3, Yba.ntmps3
  go_wp2
  go_ret
  exact ⟨rfl, Below.refl _ _⟩

/-- The slice that came in: nil or not, its bytes behind it. -/
structure BSrc (w : World) (oa : Option Addr) (n c : Nat) (xs : List Int) : Prop where
  len : xs.length = n
  fits : ∀ x ∈ xs, 0 ≤ x ∧ x < 256
  at_ : oa = none ∧ n = 0 ∧ c = 0 ∨ (∃ ad, oa = some ad ∧ n = 0) ∨ ∃ b off, oa = some ⟨b, off, none⟩ ∧ b < w.heap.size ∧ ∀ j x, xs[j]? = some x → w.cell? ⟨b, off + j, none⟩ = some (.int .u8 x)

theorem add_plain (b off j : Nat) : (⟨b, off, none⟩ : Addr).add j = ⟨b, off + j, none⟩ := by
  unfold Addr.add; split <;> simp_all

theorem clone_any (oa : Option Addr) (n c : Nat) (xs : List Int) (w : World) (h : BSrc w oa n c xs) (hn : n ≤ 1024) :
    Calls Yba.prog 7 #[.slice oa n c] w fun e w' => ∃ oa2 cap2, e = .returned (.slice oa2 n cap2) ∧ w'.ownsRow w.heap.size 5 1 (.slice oa2 n cap2) n (cu8 xs) ∧ Below w.heap.size w w' := by
  have hl := h.len
  rcases h.at_ with ⟨rfl, rfl, rfl⟩ | ⟨ad, rfl, rfl⟩ | ⟨b, off, rfl, hb, hc⟩
  · have hx : xs = [] := List.eq_nil_of_length_eq_zero hl
    subst hx
    refine (clone_nil w).mono ?_
    rintro e w' ⟨rfl, rfl⟩
    exact ⟨none, 0, rfl, World.ownsRow_nil _ _ _ _, Below.refl _ _⟩
  · have hx : xs = [] := List.eq_nil_of_length_eq_zero hl
    subst hx
    exact clone_some ad 0 c [] w rfl (by intro j u h; simp [cu8] at h) hn
  · refine clone_some ⟨b, off, none⟩ n c xs w hl ?_ hn
    intro j u hj
    obtain ⟨x, hx, rfl⟩ : ∃ x, xs[j]? = some x ∧ Value.int .u8 x = u := by
      simp [cu8] at hj
      exact hj
    rw [add_plain]
    exact (World.grownBy_alloc w _ none).cell (hc j x hx) (by simp)

theorem bts_at (s : ByteArray) (k : Nat) (h : k < s.size) : (bts s).getD k 0 = (s[k].toNat : Int) := by
  have h' : k < s.data.size := h
  simp [bts, List.getD]
  rw [Array.getElem?_eq_getElem h']
  rfl
theorem bts_mem (s : ByteArray) (k : Nat) (h : k < s.size) : (s[k].toNat : Int) ∈ bts s := by
  have h' : k < (bts s).length := by rw [bts_length]; exact h
  rw [← bts_at s k h]
  simp [List.getD, List.getElem?_eq_getElem h']

set_option maxHeartbeats 1600000 in
theorem exact_any (oa : Option Addr) (n c : Nat) (xs : List Int) (s : ByteArray) (w : World) (h : BSrc w oa n c xs) (hn : n ≤ 1024) (hs : s.size ≤ 1024) :
    Calls Yba.prog 3 #[.slice oa n c, .string s] w fun e w' => e = .returned (.bool true) ∧ Below w.heap.size w w' := by
  have HB : Hid (BSrc w oa n c xs) := h
  clear h
  go_enter Yba.func3, Yba.ntmps3
  go_wp2_with fail
  refine (clone_any oa n c xs w HB.out hn).mono ?_
  rintro e w1 ⟨o1, c1, rfl, hown1, hb1⟩
  have HO1 : Hid (w1.ownsRow w.heap.size 5 1 (.slice o1 n c1) n (cu8 xs)) := hown1
  have HB1 : Hid (Below w.heap.size w w1) := hb1
  clear hown1 hb1
  go_wp2_with fail
  refine (app_lower w.heap.size o1 n c1 xs s w1 HO1.out HB1.out.size hn hs).mono ?_
  rintro e w2 ⟨o2, c2, vs, rfl, hown2, hh, hd, hb2⟩
  have HO2 : Hid (w2.ownsRow w.heap.size 5 1 (.slice o2 (n + s.size) c2) (n + s.size) vs) := hown2
  have HB2 : Hid (Below w.heap.size w w2) := HB1.out.trans hb2
  have HH : Hid (∀ j, j < n → vs[j]? = (cu8 xs)[j]?) := hh
  have HD : Hid (∀ j, j < s.size → vs[n + j]? = some (.int .u8 (low ((bts s).getD j 0)))) := hd
  clear hown2 hh hd hb2 HO1 HB1
  have hbl := bts_length s
  go_wp2_with fail
  go_loopw [7] (fun i wr => ∃ (k q : Nat), k ≤ n ∧ i = .int .i64 (k : Nat) ∧ wr = w2.drewN q) (fun i _ => n - (intOf i).toNat)
  case atStart => exact ⟨0, 0, Nat.zero_le _, rfl, rfl⟩
  case round =>
    obtain ⟨k, q, hk, rfl, rfl⟩ := hrel
    by_cases hlt : k < n
    · obtain ⟨g, rfl, hg1, hg2⟩ := owns_some HO2.out (by omega)
      obtain ⟨x, hx⟩ : ∃ x, xs[k]? = some x := ⟨_, List.getElem?_eq_getElem (by have := HB.out.len; omega)⟩
      obtain ⟨b, off, rfl, hbl2, hc⟩ : ∃ b off, oa = some ⟨b, off, none⟩ ∧ b < w.heap.size ∧ ∀ j x, xs[j]? = some x → w.cell? ⟨b, off + j, none⟩ = some (.int .u8 x) := by
        rcases HB.out.at_ with ⟨_, h0, _⟩ | ⟨_, _, h0⟩ | h0
        · omega
        · omega
        · exact h0
      obtain ⟨x0, x1⟩ := HB.out.fits x (List.mem_of_getElem? hx)
      have e1 : w2.cell? ⟨b, off + k, none⟩ = some (.int .u8 x) := (HB2.out.cell (p := ⟨b, off + k, none⟩) hbl2).trans (hc k x hx)
      have e2 : w2.cell? ⟨g, k, none⟩ = some (.int .u8 x) := by
        rw [HO2.out.cellAt k (by omega), HH.out k hlt]
        simp [cu8, hx]
      clear hc hx
      go_wp2_with fail
      go_quiet (fail)
      go_wp2
      go_roundw
      case rel => exact ⟨k + 1, _, by omega, by go_num, rfl⟩
      case measure => simp [intOf]; omega
    · go_wp2_with fail
      go_loopw [8] (fun i wr => ∃ (k q : Nat), k ≤ s.size ∧ i = .int .i64 (k : Nat) ∧ wr = w2.drewN q) (fun i _ => s.size - (intOf i).toNat)
      case atStart => exact ⟨0, q, Nat.zero_le _, rfl, rfl⟩
      case round =>
        obtain ⟨k, q, hk, rfl, hq⟩ := hrel
        have HQ : Hid (wr = w2.drewN q) := hq
        clear hq
        by_cases hlt : k < s.size
        · obtain ⟨g, rfl, hg1, hg2⟩ := owns_some HO2.out (by omega)
          have hxe := bts_at s k hlt
          obtain ⟨x0, x1⟩ := bts_fits s _ (bts_mem s k hlt)
          have e2 : wr.cell? ⟨g, n + k, none⟩ = some (.int .u8 (low (s[k].toNat : Int))) := by
            rw [HQ.out, World.cell?_drewN, HO2.out.cellAt (n + k) (by omega), HD.out k hlt, hxe]
          obtain ⟨t, ht⟩ : ∃ t, t = n + k := ⟨_, rfl⟩
          have hw : IntKind.i64.wrap ((n : Int) + (k : Int)) = (t : Int) := (IntWalk.i64_in _ (by omega)).trans (by omega)
          have hi : (t : Int) < (n : Int) + (s.size : Int) := by omega
          rw [← ht] at e2
          clear ht
          clear hxe
          go_wp2_with fail
          go_quiet (first | (go_at_call 9; refine Calls.quiet_of_same (lower9 _ _ x0 x1)))
          go_wp2
          go_roundw
          case rel => exact ⟨k + 1, _, by omega, by go_num, by rw [HQ.out]; exact World.drewN_drewN _ _ _⟩
          case measure => simp [intOf]; omega
        · go_wp2
          go_ret
          exact ⟨rfl, by rw [HQ.out]; exact below_drewN HB2.out _⟩
end Go.Proofs.Ybulkjuq

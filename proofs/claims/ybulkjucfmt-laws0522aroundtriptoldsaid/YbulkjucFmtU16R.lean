import Derived.Test.YbulkjucFmtVecR
import Derived.BigRegion
import Derived.OwnWalk
namespace Go.Proofs.YbulkjucFmt
open Go.RowKit
attribute [local go_sem ↓] Go.wp_at_zero Go.wp_at_succ

theorem or16 (x y : Int) (a0 : 0 ≤ x) (b0 : x < 256) (a1 : 0 ≤ y) (b1 : y < 256) : bits BinOp.or IntKind.u16 (x * 256) y = x * 256 + y := by
  obtain ⟨n0, rfl⟩ := Int.eq_ofNat_of_zero_le a0
  obtain ⟨n1, rfl⟩ := Int.eq_ofNat_of_zero_le a1
  have e : ((n0 : Int) * 256) = ((n0 * 256 : Nat) : Int) := by omega
  rw [e, u16_or_nat (n0 * 256) n1 (by omega) (by omega), or_mul n1 n0 8 256 (by decide) (by omega)]
  omega
theorem enc16_at (U : List Int) (k : Nat) (x : Int) (h : U[k]? = some x) : (enc16 U)[2 * k]? = some (x / 256) ∧ (enc16 U)[2 * k + 1]? = some (x % 256) := by
  induction U generalizing k with
  | nil => simp at h
  | cons y U ih =>
    cases k with
    | zero => simp at h; subst h; simp [enc16]
    | succ k =>
      have := ih k (by simpa using h)
      have e1 : 2 * (k + 1) = 2 * k + 1 + 1 := by omega
      have e2 : 2 * (k + 1) + 1 = (2 * k + 1) + 1 + 1 := by omega
      rw [e2, e1]
      simpa [enc16] using this

/-- After k numbers. -/
structure Par (w wr : World) (n : Nat) (U : List Int) (k : Nat) (xs : List Value) : Prop where
  own : wr.ownsRow w.heap.size 34 1 (.slice (some ⟨w.heap.size, 0, none⟩) n n) n xs
  val : ∀ j, j < k → xs[j]? = some (.int .u16 (U.getD j 0))
  low : Below w.heap.size w wr
theorem Par.push {w wr : World} {n k : Nat} {U : List Int} {xs : List Value} {x : Int} (h : Par w wr n U k xs) (hk : k < n) (hx : U.getD k 0 = x) : Par w (wr.setCell ⟨w.heap.size, k, none⟩ (.int .u16 x)) n U (k + 1) (xs.set k (.int .u16 x)) := by
  have hlen : xs.length = n := by have := h.own.1; simpa using this
  refine ⟨(h.own.stored k _).1, fun j hj => ?_, h.low.setCell (p := ⟨w.heap.size, k, none⟩) (Nat.le_refl _) _⟩
  by_cases hjk : j = k
  · subst hjk
    rw [hx]
    simp [hlen, hk]
  · rw [List.getElem?_set_ne (by omega)]
    exact h.val j (by omega)
theorem Par.drew {w wr : World} {n k : Nat} {U : List Int} {xs : List Value} (h : Par w wr n U k xs) : Par w wr.drew n U k xs := ⟨World.ownsRow.drew h.own, h.val, h.low.drew⟩
theorem Par.done {w wr : World} {n : Nat} {U : List Int} {xs : List Value} (h : Par w wr n U n xs) (hl : U.length = n) : xs = cu16 U := by
  have hlen : xs.length = n := by have := h.own.1; simpa using this
  refine List.ext_getElem? fun j => ?_
  by_cases hj : j < n
  · rw [h.val j hj]
    have hj' : j < U.length := by omega
    simp [cu16, List.getD, List.getElem?_eq_getElem hj']
  · rw [List.getElem?_eq_none (by omega), List.getElem?_eq_none (by rw [cu16_length]; omega)]

set_option maxRecDepth 100000 in
set_option maxHeartbeats 1600000 in
theorem u16R (mb off n c : Nat) (U : List Int) (w : World) (hs : Src w (some ⟨mb, off, none⟩) (2 * n) 1 c (cu8 (enc16 U))) (hl : U.length = n) (hr : ∀ x ∈ U, 0 ≤ x ∧ x < 65536) (hn : n ≤ 1024) :
    Calls Ybaf.prog 22 #[.slice (some ⟨mb, off, none⟩) (2 * n) c] w fun e w' => e = .returned (.tuple #[.slice (some ⟨w.heap.size, 0, none⟩) n n, .nilIface]) ∧ w'.ownsRow w.heap.size 34 1 (.slice (some ⟨w.heap.size, 0, none⟩) n n) n (cu16 U) ∧ Below w.heap.size w w' := by
  have HS : Hid (Src w (some ⟨mb, off, none⟩) (2 * n) 1 c (cu8 (enc16 U))) := hs
  have HL : Hid (U.length = n) := hl
  have HR : Hid (∀ x ∈ U, 0 ≤ x ∧ x < 65536) := hr
  obtain ⟨i0, hi, hz0, hz1, hz2⟩ := info_parts info34
  have hmb : mb < w.heap.size := hs.lt mb rfl
  clear hs hl hr
  go_enter Ybaf.func22, Ybaf.ntmps22
  go_wp2_with (at_make; refine wpList_make_full _ rfl (.tmp 17) (.tmp 17) 24 rfl w.heap.size 34 i0 (.int .u16 0) 1 Ybaf.underlying24 hi hz0 hz1 .i64 .i64 _ _ n rfl rfl (by omega) (by omega) (by rw [hz2]; omega) (by unfold maxLen; omega) (Nat.le_refl _) ?_; intro w1 hown1 hg1)
  clear hi hz0 hz1 hz2
  go_loopw [21] (fun i wr => ∃ (k : Nat) (xs : List Value), k ≤ n ∧ i = .int .i64 (k : Nat) ∧ Par w wr n U k xs) (fun i _ => n - (intOf i).toNat)
  case atStart => exact ⟨0, _, Nat.zero_le _, rfl, ⟨hown1, by intro j h; omega, (Below.refl _ _).grown hg1 (Nat.le_refl _) (fun k hk => by cases hk)⟩⟩
  case round =>
    obtain ⟨k, xs, hk, rfl, hB⟩ := hrel
    have HB : Hid (Par w wr n U k xs) := hB
    by_cases hlt : k < n
    · obtain ⟨x, hxx⟩ : ∃ x, U[k]? = some x := ⟨_, List.getElem?_eq_getElem (by have := HL.out; omega)⟩
      obtain ⟨hx0, hx1⟩ := HR.out x (List.mem_of_getElem? hxx)
      have hs' := HS.out.below hB.low HS.out.lt
      have c0 := hs'.get8 (enc16_at U k x hxx).1
      have c1 := hs'.get8 (enc16_at U k x hxx).2
      have hlen : xs.length = n := by have := hB.own.1; simpa using this
      obtain ⟨u, hu⟩ : ∃ u, xs[k]? = some u := ⟨_, List.getElem?_eq_getElem (by omega)⟩
      have cg : wr.cell? ⟨w.heap.size, k, none⟩ = some u := (hB.own.cellAt k (by omega)).trans hu
      have fg : wr.frozen? ⟨w.heap.size, k, none⟩ = false := hB.own.frozenAt k
      have HX : Hid (U.getD k 0 = x) := by show U.getD k 0 = x; simp [List.getD, hxx]
      obtain ⟨a, ha⟩ : ∃ a, a = x / 256 := ⟨_, rfl⟩
      obtain ⟨b, hb⟩ : ∃ b, b = x % 256 := ⟨_, rfl⟩
      have hv : Hid (a * 256 + b = x) := by show _ = _; omega
      have a0 : 0 ≤ a := by omega
      have a1 : a < 256 := by omega
      have b0 : 0 ≤ b := by omega
      have b1 : b < 256 := by omega
      have e1 := or16 a b a0 a1 b0 b1
      have hne : mb ≠ w.heap.size := by omega
      rw [← ha] at c0
      rw [← hb] at c1
      clear hB hxx hs' hlen hu ha hb
      go_wp2_with fail
      go_region
      rw [hv.out]
      have HP : Hid (Par w (wr.setCell ⟨w.heap.size, k, none⟩ (.int .u16 x)).drew n U (k + 1) (xs.set k (.int .u16 x))) := (HB.out.push hlt HX.out).drew
      generalize (wr.setCell ⟨w.heap.size, k, none⟩ (.int .u16 x)).drew = wx at *
      clear c0 c1 cg fg e1
      go_wp2
      go_roundw
      case rel => exact ⟨k + 1, _, by omega, by go_num, HP.out⟩
      case measure => simp [intOf]; omega
    · have hkn : k = n := by omega
      subst hkn
      clear hB
      go_wp2
      go_ret2
      have h := HB.out.own
      rw [HB.out.done HL.out] at h
      exact ⟨rfl, h, HB.out.low⟩
end Go.Proofs.YbulkjucFmt

/-
  slices.Clone AND appendLowerASCII.
-/
import Derived.Test.YbulkjuqLower
namespace Go.Proofs.Ybulkjuq
open Go.RowKit Go.Lib

def cu8 (xs : List Int) : List Value := xs.map (Value.int .u8)
theorem cu8_length (xs : List Int) : (cu8 xs).length = xs.length := by simp [cu8]
theorem cu8_one (xs : List Int) : ∀ u ∈ cu8 xs, u.oneCell' = true := fun u hu => by
  obtain ⟨n, _, rfl⟩ := List.mem_map.1 hu
  rfl
/-- The bytes of a string. -/
def bts (s : ByteArray) : List Int := s.data.toList.map fun b => (b.toNat : Int)
theorem bts_cells (s : ByteArray) : strCells s = cu8 (bts s) := by simp [strCells, cu8, bts]
theorem bts_length (s : ByteArray) : (bts s).length = s.size := by simp [bts]
theorem bts_fits (s : ByteArray) : ∀ x ∈ bts s, 0 ≤ x ∧ x < 256 := fun x hx => by
  obtain ⟨b, _, rfl⟩ := List.mem_map.1 hx
  have := b.toNat_lt
  omega
theorem owns_new (w : World) (base : Nat) (e : TypeId) (vs : List Value) (n : Nat) (size : Nat) (hn : vs.length = n * size) (hb : base ≤ w.heap.size) (hm : n ≤ maxLen) :
    (w.alloc (.cells vs.toArray e)).ownsRow base e size (.slice (some ⟨w.heap.size, 0, none⟩) n n) n vs :=
  ⟨hn, Or.inr ⟨w.heap.size, n, vs.toArray, rfl, hb, heap_alloc_new w _, Nat.le_refl _, hm, by simp [hn], by rw [← hn]; simp⟩⟩
theorem owns_shape {w : World} {base : Nat} {e : TypeId} {size : Nat} {v : Value} {n : Nat} {xs : List Value} (h : w.ownsRow base e size v n xs) : ∃ oa cap, v = .slice oa n cap := by
  rcases h.2 with ⟨h1, h2⟩ | ⟨g', cap', cur, hv, _⟩
  · exact ⟨none, 0, by rw [h1, h2]⟩
  · exact ⟨_, _, hv⟩
theorem owns_some {w : World} {base : Nat} {e : TypeId} {size : Nat} {oa : Option Addr} {n cap : Nat} {xs : List Value} (h : w.ownsRow base e size (.slice oa n cap) n xs) (hn : 0 < n) : ∃ g, oa = some ⟨g, 0, none⟩ ∧ base ≤ g ∧ g < w.heap.size := by
  rcases h.2 with ⟨h1, h2⟩ | ⟨g', cap', cur, hv, hb, hh, _⟩
  · omega
  · cases hv
    exact ⟨g', rfl, hb, (Array.getElem?_eq_some_iff.1 hh).1⟩

theorem clone_nil (w : World) : Calls Yba.prog 7 #[.slice none 0 0] w fun e w' => e = .returned (.slice none 0 0) ∧ w' = w := by
  have he : ∀ w : World, (binOp .eql 22 (.slice none 0 0) (.slice none 0 0)).run Yba.prog w = .ok (.bool true) w := fun _ => rfl
  go_enter Yba.func7, Yba.ntmps7
  go_wp2
  go_ret
  exact ⟨rfl, rfl⟩

set_option maxHeartbeats 400000 in
theorem clone_some (ad : Addr) (n c : Nat) (xs : List Int) (w : World) (hl : xs.length = n) (hlt : ∀ j u, (cu8 xs)[j]? = some u → (w.alloc (.cells #[] 5)).cell? (ad.add j) = some u) (hn : n ≤ 1024) :
    Calls Yba.prog 7 #[.slice (some ad) n c] w fun e w' => ∃ oa2 cap2, e = .returned (.slice oa2 n cap2) ∧ w'.ownsRow w.heap.size 5 1 (.slice oa2 n cap2) n (cu8 xs) ∧ Below w.heap.size w w' := by
  obtain ⟨i0, hi, hz0, hz1, hz2⟩ := info_parts info5
  have HX : Hid (∀ j u, (cu8 xs)[j]? = some u → (w.alloc (.cells #[] 5)).cell? (ad.add j) = some u) := hlt
  have HL : Hid (xs.length = n) := hl
  have he : ∀ w : World, (binOp .eql 22 (.slice (some ad) n c) (.slice none 0 0)).run Yba.prog w = .ok (.bool false) w := fun _ => rfl
  clear hlt hl
  go_enter Yba.func7, Yba.ntmps7
  go_wp2_with (first
    | (at_builtin; refine wpList_append_own_at _ rfl (.tmp 5) (.tmp 6) 22 (by rfl) w.heap.size 5 i0 (.int .u8 0) 1 1 Yba.underlying22 hi hz0 hz1 hz2 rfl (by decide) (.slice (some ⟨w.heap.size, 0, none⟩) 0 0) 0 [] (by rfl) (owns_new w w.heap.size 5 [] 0 1 rfl (Nat.le_refl _) (by decide)) ad n c (cu8 xs) (by rfl) (by rw [cu8_length, HL.out]; omega) HX.out (cu8_one xs) (by unfold maxLen; omega) (by omega) (by simp) ?_; intro v' w' h2 h3 _ h5))
  obtain ⟨oa2, cap2, rfl⟩ := owns_shape h2
  rw [Nat.zero_add] at h2
  have hb : Below w.heap.size w w' := ((Below.refl w.heap.size w).alloc (Nat.le_refl _) (.cells #[] 5)).grown h3 (by simp) (fun k hk => by cases hk; exact Nat.le_refl _)
  clear h3 h5
  go_ret
  refine ⟨oa2, cap2, ?_, h2, hb⟩
  show Ending.returned (.slice oa2 (0 + n) cap2) = _
  rw [Nat.zero_add]

/-- What is known of the row while it is being lowered: the first 'n' cells, the 'k' lowered, the rest. -/
structure Low (B : Nat) (w wr : World) (g cap n m : Nat) (xs bs : List Int) (k : Nat) (vs : List Value) : Prop where
  own : wr.ownsRow B 5 1 (.slice (some ⟨g, 0, none⟩) (n + m) cap) (n + m) vs
  bel : Below B w wr
  head : ∀ j, j < n → vs[j]? = (cu8 xs)[j]?
  done : ∀ j, j < k → vs[n + j]? = some (.int .u8 (low (bs.getD j 0)))
  left : ∀ j, k ≤ j → j < m → vs[n + j]? = some (.int .u8 (bs.getD j 0))
theorem Low.push {B : Nat} {w wr : World} {g cap n m : Nat} {xs bs : List Int} {k : Nat} {vs : List Value} {x : Int} (h : Low B w wr g cap n m xs bs k vs) (hg : B ≤ g) (hk : k < m) (hx : bs.getD k 0 = x) :
    Low B w (wr.setCell ⟨g, n + k, none⟩ (.int .u8 (low x))) g cap n m xs bs (k + 1) (vs.set (n + k) (.int .u8 (low x))) := by
  have hlen : vs.length = n + m := by have := h.own.1; simpa using this
  refine ⟨(h.own.stored (n + k) _).1, h.bel.setCell (p := ⟨g, n + k, none⟩) hg _, fun j hj => ?_, fun j hj => ?_, fun j h1 h2 => ?_⟩
  · rw [List.getElem?_set_ne (by omega)]; exact h.head j hj
  · by_cases e : j = k
    · subst e
      rw [hx]
      simp [hlen, hk]
    · rw [List.getElem?_set_ne (by omega)]; exact h.done j (by omega)
  · rw [List.getElem?_set_ne (by omega)]; exact h.left j (by omega) h2

set_option maxHeartbeats 800000 in
theorem app_lower (B : Nat) (oa : Option Addr) (n cap : Nat) (xs : List Int) (s : ByteArray) (w : World) (hown : w.ownsRow B 5 1 (.slice oa n cap) n (cu8 xs)) (hB : B ≤ w.heap.size) (hn : n ≤ 1024) (hs : s.size ≤ 1024) :
    Calls Yba.prog 8 #[.slice oa n cap, .string s] w fun e w' => ∃ oa2 cap2 vs, e = .returned (.slice oa2 (n + s.size) cap2) ∧ w'.ownsRow B 5 1 (.slice oa2 (n + s.size) cap2) (n + s.size) vs ∧ (∀ j, j < n → vs[j]? = (cu8 xs)[j]?) ∧ (∀ j, j < s.size → vs[n + j]? = some (.int .u8 (low ((bts s).getD j 0)))) ∧ Below B w w' := by
  obtain ⟨i0, hi, hz0, hz1, hz2⟩ := info_parts info5
  have HO : Hid (w.ownsRow B 5 1 (.slice oa n cap) n (cu8 xs)) := hown
  have hX0 : (cu8 xs).length = n := by have := hown.1; simpa using this
  have HX : Hid ((cu8 xs).length = n) := hX0
  clear hX0
  have HR : Hid (∀ k, (Value.slice oa n cap).ownBlock = some k → B ≤ k) := fun k hk => (hown.lt k hk).1
  clear hown
  go_enter Yba.func8, Yba.ntmps8
  go_wp2_with (first
    | (at_builtin; refine wpList_append_own_string _ rfl (.tmp 9) (.tmp 10) 22 9 (by rfl) B 5 i0 Yba.underlying22 Yba.underlying9 hi hz0 hz1 hz2 (.slice oa n cap) n (cu8 xs) (by rfl) HO.out s (by rfl) (by unfold maxLen; omega) (by omega) hB ?_; intro v' w1 h2 h3 _; obtain ⟨oa2, cap2, rfl⟩ := owns_shape h2; have HO2 : Hid (w1.ownsRow B 5 1 (.slice oa2 (n + s.size) cap2) (n + s.size) (cu8 xs ++ strCells s)) := h2; have HB2 : Hid (Below B w w1) := (Below.refl B w).grown h3 hB HR.out; clear h2 h3))
  have hbl := bts_length s
  generalize hm : s.size = m at *
  go_loopw [6] (fun i wr => ∃ (k : Nat) (vs : List Value), k ≤ m ∧ i = .int .i64 ((n + k : Nat) : Int) ∧ wr.ownsRow B 5 1 (.slice oa2 (n + m) cap2) (n + m) vs ∧ Below B w wr ∧ (∀ j, j < n → vs[j]? = (cu8 xs)[j]?) ∧ (∀ j, j < k → vs[n + j]? = some (.int .u8 (low ((bts s).getD j 0)))) ∧ ∀ j, k ≤ j → j < m → vs[n + j]? = some (.int .u8 ((bts s).getD j 0))) (fun i _ => n + m - (intOf i).toNat)
  case atStart =>
    refine ⟨0, _, Nat.zero_le _, rfl, HO2.out, HB2.out, fun j hj => ?_, fun j hj => by omega, fun j _ hj => ?_⟩
    · rw [List.getElem?_append_left (by rw [HX.out]; exact hj)]
    · rw [List.getElem?_append_right (by rw [HX.out]; omega), HX.out, Nat.add_sub_cancel_left, bts_cells]
      have hj' : j < (bts s).length := by omega
      simp [cu8, List.getD, List.getElem?_eq_getElem hj']
  case round =>
    obtain ⟨k, vs, hk, rfl, hown, hlow, h1, h2, h3⟩ := hrel
    by_cases hlt : k < m
    · obtain ⟨g, rfl, hg1, hg2⟩ := owns_some hown (by omega)
      have hL : Low B w wr g cap2 n m xs (bts s) k vs := ⟨hown, hlow, h1, h2, h3⟩
      obtain ⟨x, hx⟩ : ∃ x, (bts s)[k]? = some x := ⟨_, List.getElem?_eq_getElem (by omega)⟩
      have hxe : (bts s).getD k 0 = x := by simp [List.getD, hx]
      obtain ⟨x0, x1⟩ := bts_fits s x (List.mem_of_getElem? hx)
      have cg : wr.cell? ⟨g, n + k, none⟩ = some (.int .u8 x) := by rw [hown.cellAt (n + k) (by omega), h3 k (Nat.le_refl _) hlt, hxe]
      have fg : wr.frozen? ⟨g, n + k, none⟩ = false := hown.frozenAt _
      have HP : Hid (Low B w (wr.setCell ⟨g, n + k, none⟩ (.int .u8 (low x))) g cap2 n m xs (bts s) (k + 1) (vs.set (n + k) (.int .u8 (low x)))) := hL.push hg1 hlt hxe
      clear hL hown hlow h1 h2 h3 hx hxe HO2 HO
      go_wp2_with (go_at_call 13; refine (lower13 x wr x0 x1).mono ?_; rintro e w2 ⟨rfl, rfl⟩)
      go_roundw
      case rel => exact ⟨k + 1, _, by omega, by go_num, HP.out.own, HP.out.bel, HP.out.head, HP.out.done, HP.out.left⟩
      case measure => simp [intOf]; omega
    · have hkn : k = m := by omega
      subst hkn
      have H1 : Hid (wr.ownsRow B 5 1 (.slice oa2 (n + k) cap2) (n + k) vs ∧ (∀ j, j < n → vs[j]? = (cu8 xs)[j]?) ∧ (∀ j, j < k → vs[n + j]? = some (.int .u8 (low ((bts s).getD j 0)))) ∧ Below B w wr) := ⟨hown, h1, h2, hlow⟩
      clear hown hlow h1 h2 h3 HO2 HO
      go_wp2
      go_ret
      rw [hm]
      exact ⟨oa2, cap2, vs, rfl, H1.out⟩
end Go.Proofs.Ybulkjuq

import Derived.Test.YbulkjucFmtUint
namespace Go.Proofs.YbulkjucFmt
open Go.RowKit

/-- A list of 16-bit numbers, each in two bytes. -/
def enc16 (U : List Int) : List Int := U.flatMap fun v => [v / 256, v % 256]
theorem enc16_length (U : List Int) : (enc16 U).length = 2 * U.length := by
  induction U with
  | nil => rfl
  | cons x U ih => simp [enc16] at ih ⊢; omega
theorem enc16_snoc (U : List Int) (x : Int) : enc16 (U ++ (some x).toList) = enc16 U ++ [x / 256, x % 256] := by simp [enc16]
/-- The element at a place. -/
theorem Src.at16 {w : World} {oa : Option Addr} {m c : Nat} {U : List Int} (h : Src w oa m 1 c (cu16 U)) {k : Nat} (hk : k < m) : ∃ b off, oa = some ⟨b, off, none⟩ ∧ b < w.heap.size ∧ ∃ x, U[k]? = some x ∧ w.cell? ⟨b, off + k, none⟩ = some (.int .u16 x) := by
  obtain ⟨hl, h⟩ := h
  rw [cu16_length] at hl
  rcases h with ⟨_, rfl, _⟩ | ⟨b, off, rfl, h0, h1⟩
  · omega
  · have hx : U[k]? = some U[k] := List.getElem?_eq_getElem (by omega)
    exact ⟨b, off, rfl, h0, U[k], hx, h1 k _ (by simp [cu16, hx])⟩

set_option maxHeartbeats 400000 in
theorem vec1 (base : Nat) (oa : Option Addr) (n cap : Nat) (xs : List Int) (ob : Option Addr) (m c : Nat) (news : List Int) (w : World) (hown : w.ownsRow base 5 1 (.slice oa n cap) n (cu8 xs)) (hsrc : Src w ob m 1 c (cu8 news)) (hne : ∀ k, blk ob = some k → blk oa ≠ some k) (hm : m < 256) (hn : n ≤ 800000) (hb : base ≤ w.heap.size) :
    Calls Ybaf.prog 11 #[.slice oa n cap, .slice ob m c, .int .i64 1] w fun e w' => ∃ oa2 cap2, e = .returned (.slice oa2 (n + 1 + m) cap2) ∧
      w'.ownsRow base 5 1 (.slice oa2 (n + 1 + m) cap2) (n + 1 + m) (cu8 (xs ++ [(m : Int)] ++ news)) ∧ Grew w w' oa oa2 := by
  have hz : (m : Int) / 256 = 0 := by omega
  have H1 := uint1 (m : Int) base oa n cap xs w (by omega) (by omega) hown (by omega) hb
  have HS : Hid (Src w ob m 1 c (cu8 news)) := hsrc
  have HN : Hid (∀ k, blk ob = some k → blk oa ≠ some k) := hne
  clear hsrc hne hown
  go_enter Ybaf.func11, Ybaf.ntmps11
  go_wp2_with (first
    | (at_builtin; refine app8 rfl (.tmp 36) (.tmp 37) (by rfl) base oa2 (n + 1) cap2 _ (by rfl) hown2 ob m c news (by rfl) (HS.out.grew hg2 HN.out) (by omega) (by omega) ?_; intro oa3 cap3 w3 hown3 hg3)
    | (go_at_call 18; refine H1.mono ?_; rintro e w2 ⟨oa2, cap2, rfl, hown2, hg2⟩; have hs2 := hg2.size))
  go_ret
  exact ⟨oa3, cap3, rfl, hown3, hg2.trans hg3⟩

set_option maxHeartbeats 400000 in
theorem vec2 (base : Nat) (oa : Option Addr) (n cap : Nat) (xs : List Int) (ob : Option Addr) (m c : Nat) (news : List Int) (w : World) (hown : w.ownsRow base 5 1 (.slice oa n cap) n (cu8 xs)) (hsrc : Src w ob m 1 c (cu8 news)) (hne : ∀ k, blk ob = some k → blk oa ≠ some k) (hm : m < 65536) (hn : n ≤ 800000) (hb : base ≤ w.heap.size) :
    Calls Ybaf.prog 11 #[.slice oa n cap, .slice ob m c, .int .i64 2] w fun e w' => ∃ oa2 cap2, e = .returned (.slice oa2 (n + 2 + m) cap2) ∧
      w'.ownsRow base 5 1 (.slice oa2 (n + 2 + m) cap2) (n + 2 + m) (cu8 (xs ++ [(m : Int) / 256, (m : Int) % 256] ++ news)) ∧ Grew w w' oa oa2 := by
  have hz : (m : Int) / 65536 = 0 := by omega
  have H1 := uint2 (m : Int) base oa n cap xs w (by omega) (by omega) hown (by omega) hb
  have HS : Hid (Src w ob m 1 c (cu8 news)) := hsrc
  have HN : Hid (∀ k, blk ob = some k → blk oa ≠ some k) := hne
  clear hsrc hne hown
  go_enter Ybaf.func11, Ybaf.ntmps11
  go_wp2_with (first
    | (at_builtin; refine app8 rfl (.tmp 36) (.tmp 37) (by rfl) base oa2 (n + 2) cap2 _ (by rfl) hown2 ob m c news (by rfl) (HS.out.grew hg2 HN.out) (by omega) (by omega) ?_; intro oa3 cap3 w3 hown3 hg3)
    | (go_at_call 18; refine H1.mono ?_; rintro e w2 ⟨oa2, cap2, rfl, hown2, hg2⟩; have hs2 := hg2.size))
  go_ret
  exact ⟨oa3, cap3, rfl, hown3, hg2.trans hg3⟩

set_option maxHeartbeats 400000 in
theorem head3 (t : Int) (len : Nat) (w : World) (hl : len < 16777216) :
    Calls Ybaf.prog 19 #[.slice none 0 0, .int .u8 t, .int .i64 (len : Int)] w fun e w' => ∃ oa2 cap2, e = .returned (.slice oa2 4 cap2) ∧
      w'.ownsRow w.heap.size 5 1 (.slice oa2 4 cap2) 4 (cu8 [t, (len : Int) / 65536, (len : Int) / 256 % 256, (len : Int) % 256]) ∧ Grew w w' none oa2 := by
  go_enter Ybaf.func19, Ybaf.ntmps19
  go_wp2_with (first
    | (at_builtin; refine app8 rfl (.tmp 7) (.tmp 9) (by rfl) w.heap.size none 0 0 [] (by rfl) (World.ownsRow_nil _ _ _ _) (some ⟨w.heap.size, 0, none⟩) 1 1 [t] (by rfl) (src_new w 5 [.int .u8 t] 1 1 1 rfl) (by omega) (by simp) ?_; intro oa2 cap2 w2 hown2 hg2; have hs2 := hg2.size; simp at hs2)
    | (go_at_call 18; refine (uint3 (len : Int) w.heap.size oa2 (0 + 1) cap2 _ w2 (by omega) (by omega) hown2 (by omega) (by omega)).mono ?_; rintro e w3 ⟨oa3, cap3, rfl, hown3, hg3⟩))
  go_ret
  exact ⟨oa3, cap3, rfl, by simpa using hown3, ((Grew.alloc w _ none).trans hg2).trans hg3⟩

set_option maxHeartbeats 400000 in
theorem shake (t : Int) (ob : Option Addr) (m c : Nat) (news : List Int) (w : World) (hsrc : Src w ob m 1 c (cu8 news)) (hm : m ≤ 800000) :
    Calls Ybaf.prog 14 #[.int .u8 t, .slice ob m c] w fun e w' => ∃ oa2 cap2, e = .returned (.slice oa2 (4 + m) cap2) ∧
      w'.ownsRow w.heap.size 5 1 (.slice oa2 (4 + m) cap2) (4 + m) (cu8 ([t, (m : Int) / 65536, (m : Int) / 256 % 256, (m : Int) % 256] ++ news)) ∧ Grew w w' none oa2 := by
  have H1 := head3 t m w (by omega)
  have HS : Hid (Src w ob m 1 c (cu8 news)) := hsrc
  clear hsrc
  go_enter Ybaf.func14, Ybaf.ntmps14
  go_wp2_with (first
    | (at_builtin; refine app8 rfl (.tmp 8) (.tmp 9) (by rfl) w.heap.size oa2 4 cap2 _ (by rfl) hown2 ob m c news (by rfl) (HS.out.grew hg2 (by simp [blk])) (by omega) (by omega) ?_; intro oa3 cap3 w3 hown3 hg3)
    | (go_at_call 19; refine H1.mono ?_; rintro e w2 ⟨oa2, cap2, rfl, hown2, hg2⟩; have hs2 := hg2.size))
  go_ret
  exact ⟨oa3, cap3, rfl, hown3, hg2.trans hg3⟩

set_option maxHeartbeats 400000 in
theorem start_ (oR : Option Addr) (cR : Nat) (R : List Int) (oS : Option Addr) (m cS : Nat) (S : List Int) (what : Value) (w : World) (hR : Src w oR 32 1 cR (cu8 R)) (hS : Src w oS m 1 cS (cu8 S)) (hm : m ≤ 32) :
    Calls Ybaf.prog 10 #[.slice none 0 0, what, .int .u16 771, .slice oR 32 cR, .slice oS m cS] w fun e w' => ∃ oa2 cap2, e = .returned (.slice oa2 (35 + m) cap2) ∧
      w'.ownsRow w.heap.size 5 1 (.slice oa2 (35 + m) cap2) (35 + m) (cu8 ([3, 3] ++ R ++ [(m : Int)] ++ S)) ∧ Grew w w' none oa2 := by
  have H1 := uint2 771 w.heap.size none 0 0 [] w (by omega) (by omega) (World.ownsRow_nil _ _ _ _) (by omega) (by omega)
  have HS : Hid (Src w oS m 1 cS (cu8 S)) := hS
  have HR : Hid (Src w oR 32 1 cR (cu8 R)) := hR
  clear hS hR
  go_enter Ybaf.func10, Ybaf.ntmps10
  go_wp2_with (first
    | (at_builtin; refine app8 rfl (.tmp 34) (.tmp 35) (by rfl) w.heap.size oa2 (0 + 2) cap2 _ (by rfl) hown2 oR 32 cR R (by rfl) (HR.out.grew hg2 (by simp [blk])) (by omega) (by omega) ?_; intro oa3 cap3 w3 hown3 hg3; have hs3 := hg3.size; have hg23 := hg2.trans hg3)
    | (go_at_call 18; refine H1.mono ?_; rintro e w2 ⟨oa2, cap2, rfl, hown2, hg2⟩; have hs2 := hg2.size)
    | (go_at_call 11; refine (vec1 w.heap.size oa3 (0 + 2 + 32) cap3 _ oS m cS S w3 hown3 (HS.out.grew hg23 (by simp [blk])) (HS.out.apart hg23) (by omega) (by omega) (by omega)).mono ?_; rintro e w4 ⟨oa4, cap4, rfl, hown4, hg4⟩))
  go_ret
  refine ⟨oa4, cap4, ret_slice (by omega), ?_, hg23.trans hg4⟩
  rw [show 35 + m = 0 + 2 + 32 + 1 + m from by omega]
  simpa using hown4

set_option maxHeartbeats 800000 in
theorem u16s (oU : Option Addr) (m cU : Nat) (U : List Int) (w : World) (hU : Src w oU m 1 cU (cu16 U)) (hr : ∀ x ∈ U, 0 ≤ x ∧ x < 65536) (hm : m ≤ 1024) :
    Calls Ybaf.prog 12 #[.slice none 0 0, .slice oU m cU] w fun e w' => ∃ oa2 cap2, e = .returned (.slice oa2 (2 * m) cap2) ∧
      w'.ownsRow w.heap.size 5 1 (.slice oa2 (2 * m) cap2) (2 * m) (cu8 (enc16 U)) ∧ Grew w w' none oa2 := by
  have HU : Hid (Src w oU m 1 cU (cu16 U)) := hU
  have HR : Hid (∀ x ∈ U, 0 ≤ x ∧ x < 65536) := hr
  clear hU hr
  go_enter Ybaf.func12, Ybaf.ntmps12
  go_wp2_with fail
  go_loopw [0, 9] (fun b i wr => ∃ (k : Nat) (oa : Option Addr) (cap : Nat), k ≤ m ∧ i = .int .i64 (k : Nat) ∧ b = .slice oa (2 * k) cap ∧ wr.ownsRow w.heap.size 5 1 (.slice oa (2 * k) cap) (2 * k) (cu8 (enc16 (U.take k))) ∧ Grew w wr none oa) (fun _ i _ => m - (intOf i).toNat)
  case atStart => exact ⟨0, none, 0, Nat.zero_le _, rfl, rfl, World.ownsRow_nil _ _ _ _, Grew.refl _ _⟩
  case round =>
    obtain ⟨k, oa, cap, hk, rfl, rfl, hown, hg⟩ := hrel
    have hs := hg.size
    by_cases hlt : k < m
    · obtain ⟨b, off, rfl, hb, x, hx, c1⟩ := (HU.out.grew hg (by simp [blk])).at16 hlt
      have hxr := HR.out x (List.mem_of_getElem? hx)
      obtain ⟨hx0, hx1⟩ := hxr
      have HX : Hid (U[k]? = some x) := hx
      have HO : Hid (wr.ownsRow w.heap.size 5 1 (.slice oa (2 * k) cap) (2 * k) (cu8 (enc16 (U.take k)))) := hown
      have HG : Hid (Grew w wr none oa) := hg
      clear hx hown hg
      go_wp2_with (first
        | (go_at_call 18; refine (uint2 x w.heap.size oa (2 * k) cap _ wr hx0 hx1 HO.out (by omega) (by omega)).mono ?_; rintro e w2 ⟨oa2, cap2, rfl, hown2, hg2⟩))
      go_roundw
      case rel =>
        refine ⟨k + 1, oa2, cap2, by omega, by go_num, by rw [show 2 * (k + 1) = 2 * k + 2 from by omega], ?_, HG.out.trans hg2⟩
        rw [show 2 * (k + 1) = 2 * k + 2 from by omega, List.take_add_one, HX.out, enc16_snoc]
        exact hown2
      case measure => simp [intOf]; omega
    · have hkn : k = m := by omega
      subst hkn
      go_wp2
      go_ret
      refine ⟨oa, cap, rfl, ?_, hg⟩
      have hl := HU.out.1
      rw [cu16_length] at hl
      rw [List.take_of_length_le (by omega)] at hown
      exact hown
end Go.Proofs.YbulkjucFmt

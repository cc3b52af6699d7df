import Derived.Test.YbulkjucFmtVec
namespace Go.Proofs.YbulkjucFmt
open Go.RowKit

/-- An extension as it lies in memory: the type, the slice of its data, the data. -/
structure EX where
  ty : Int
  ob : Option Addr
  c : Nat
  d : List Int
def EX.cells (x : EX) : List Value := [.int .u16 x.ty, .slice x.ob x.d.length x.c]
def ecells (es : List EX) : List Value := es.flatMap EX.cells
/-- The bytes of a list of extensions. -/
def encE (es : List EX) : List Int := es.flatMap fun x => [x.ty / 256, x.ty % 256, (x.d.length : Int) / 256, (x.d.length : Int) % 256] ++ x.d
theorem encE_snoc (es : List EX) (x : EX) : encE (es ++ (some x).toList) = encE es ++ ([x.ty / 256, x.ty % 256] ++ [(x.d.length : Int) / 256, (x.d.length : Int) % 256] ++ x.d) := by simp [encE]
theorem encE_length_snoc (es : List EX) (x : EX) : (encE (es ++ (some x).toList)).length = (encE es).length + 2 + 2 + x.d.length := by simp [encE]; omega
theorem ecells_length (es : List EX) : (ecells es).length = es.length * 2 := by
  induction es with
  | nil => rfl
  | cons x es ih => simp [ecells, EX.cells] at ih ⊢; omega
theorem ecells_at (es : List EX) (k : Nat) (x : EX) (h : es[k]? = some x) : (ecells es)[k * 2]? = some (.int .u16 x.ty) ∧ (ecells es)[k * 2 + 1]? = some (.slice x.ob x.d.length x.c) := by
  induction es generalizing k with
  | nil => simp at h
  | cons y es ih =>
    cases k with
    | zero => simp at h; subst h; simp [ecells, EX.cells]
    | succ k =>
      have := ih k (by simpa using h)
      have e1 : (k + 1) * 2 = k * 2 + 1 + 1 := by omega
      have e2 : (k + 1) * 2 + 1 = (k * 2 + 1) + 1 + 1 := by omega
      rw [e2, e1]
      simpa [ecells, EX.cells] using this
theorem ecells_one (es : List EX) : ∀ u ∈ ecells es, u.oneCell' = true := by
  intro u hu
  simp only [ecells, List.mem_flatMap, EX.cells] at hu
  obtain ⟨x, _, hu⟩ := hu
  simp at hu
  rcases hu with rfl | rfl <;> rfl
theorem encE_bound (es : List EX) (h : ∀ x ∈ es, x.d.length ≤ 1024) : (encE es).length ≤ es.length * 1028 := by
  induction es with
  | nil => simp [encE]
  | cons x es ih =>
    have h1 := h x (by simp)
    have h2 := ih fun y hy => h y (by simp [hy])
    simp [encE] at h2 ⊢
    omega

/-- A slice of extensions to be read, with the data behind it. -/
structure ESrc (w : World) (oE : Option Addr) (m c : Nat) (es : List EX) : Prop where
  row : Src w oE m 2 c (ecells es)
  data : ∀ x ∈ es, Src w x.ob x.d.length 1 x.c (cu8 x.d)
  fits : ∀ x ∈ es, 0 ≤ x.ty ∧ x.ty < 65536
theorem ESrc.length {w : World} {oE : Option Addr} {m c : Nat} {es : List EX} (h : ESrc w oE m c es) : es.length = m := by
  have := h.row.1
  rw [ecells_length] at this
  omega
theorem ESrc.grew {w w' : World} {oE oa2 : Option Addr} {m c : Nat} {es : List EX} (h : ESrc w oE m c es) (hg : Grew w w' none oa2) : ESrc w' oE m c es :=
  ⟨h.row.grew hg (by simp [blk]), fun x hx => (h.data x hx).grew hg (by simp [blk]), h.fits⟩
theorem ESrc.at_ {w : World} {oE : Option Addr} {m c : Nat} {es : List EX} (h : ESrc w oE m c es) {k : Nat} (hk : k < m) : ∃ b off, oE = some ⟨b, off, none⟩ ∧ b < w.heap.size ∧ ∃ x, es[k]? = some x ∧ w.cell? ⟨b, off + k * 2, none⟩ = some (.int .u16 x.ty) ∧ w.cell? ⟨b, off + k * 2 + 1, none⟩ = some (.slice x.ob x.d.length x.c) := by
  have hl := h.length
  obtain ⟨_, h⟩ := h.row
  rcases h with ⟨_, rfl, _⟩ | ⟨b, off, rfl, h0, h1⟩
  · omega
  · have hx : es[k]? = some es[k] := List.getElem?_eq_getElem (by omega)
    obtain ⟨e1, e2⟩ := ecells_at es k _ hx
    exact ⟨b, off, rfl, h0, es[k], hx, h1 _ _ e1, by have := h1 _ _ e2; rwa [← Nat.add_assoc] at this⟩
theorem grew_of_below {w w' : World} (h : Below w.heap.size w w') (oa : Option Addr) : Grew w w' oa oa :=
  ⟨⟨h.os, h.tape, h.output, h.size, fun k hk _ => h.block k hk⟩, fun _ h => Or.inl h⟩

/-- A slice that came in: as 'Src'; or empty, wherever it points. -/
def ASrc (w : World) (oa : Option Addr) (m : Nat) (size : Nat) (c : Nat) (news : List Value) : Prop :=
  Src w oa m size c news ∨ (m = 0 ∧ news = [] ∧ ∃ ad, oa = some ad)
theorem ASrc.below {w w' : World} {oa : Option Addr} {m size c : Nat} {news : List Value} (h : ASrc w oa m size c news) (hb : Below w.heap.size w w') : ASrc w' oa m size c news :=
  h.imp (fun h => h.below hb h.lt) id
theorem ASrc.grew {w w' : World} {oa o2 : Option Addr} {m size c : Nat} {news : List Value} (h : ASrc w oa m size c news) (hg : Grew w w' none o2) : ASrc w' oa m size c news :=
  h.below (hg.below (Nat.le_refl _) (by simp [blk]))
/-- A slice of extensions that came in. -/
structure AESrc (w : World) (oE : Option Addr) (m c : Nat) (es : List EX) : Prop where
  row : Src w oE m 2 c (ecells es)
  data : ∀ x ∈ es, ASrc w x.ob x.d.length 1 x.c (cu8 x.d)
  fits : ∀ x ∈ es, 0 ≤ x.ty ∧ x.ty < 65536
theorem AESrc.length {w : World} {oE : Option Addr} {m c : Nat} {es : List EX} (h : AESrc w oE m c es) : es.length = m := by
  have := h.row.1
  rw [ecells_length] at this
  omega
theorem AESrc.below {w w' : World} {oE : Option Addr} {m c : Nat} {es : List EX} (h : AESrc w oE m c es) (hb : Below w.heap.size w w') : AESrc w' oE m c es :=
  ⟨h.row.below hb h.row.lt, fun x hx => (h.data x hx).below hb, h.fits⟩
theorem AESrc.grew {w w' : World} {oE oa2 : Option Addr} {m c : Nat} {es : List EX} (h : AESrc w oE m c es) (hg : Grew w w' none oa2) : AESrc w' oE m c es :=
  h.below (hg.below (Nat.le_refl _) (by simp [blk]))
theorem AESrc.at_ {w : World} {oE : Option Addr} {m c : Nat} {es : List EX} (h : AESrc w oE m c es) {k : Nat} (hk : k < m) : ∃ b off, oE = some ⟨b, off, none⟩ ∧ b < w.heap.size ∧ ∃ x, es[k]? = some x ∧ w.cell? ⟨b, off + k * 2, none⟩ = some (.int .u16 x.ty) ∧ w.cell? ⟨b, off + k * 2 + 1, none⟩ = some (.slice x.ob x.d.length x.c) := by
  have hl := h.length
  obtain ⟨_, h⟩ := h.row
  rcases h with ⟨_, rfl, _⟩ | ⟨b, off, rfl, h0, h1⟩
  · omega
  · have hx : es[k]? = some es[k] := List.getElem?_eq_getElem (by omega)
    obtain ⟨e1, e2⟩ := ecells_at es k _ hx
    exact ⟨b, off, rfl, h0, es[k], hx, h1 _ _ e1, by have := h1 _ _ e2; rwa [← Nat.add_assoc] at this⟩

theorem cell_new1 (w : World) (t : TypeId) (x y : Value) : (w.alloc (.cells #[x, y] t)).cell? ⟨w.heap.size, 1, none⟩ = some y := by
  rw [cell_of_row _ _ _ _ _ _ (heap_alloc_new w _)]; rfl

set_option maxHeartbeats 800000 in
theorem mexts (oE : Option Addr) (m cE : Nat) (es : List EX) (w : World) (hE : ESrc w oE m cE es) (hd : ∀ x ∈ es, x.d.length ≤ 1024) (hm : m ≤ 256) :
    Calls Ybaf.prog 13 #[.slice oE m cE] w fun e w' => ∃ oa2 cap2, e = .returned (.slice oa2 (encE es).length cap2) ∧
      w'.ownsRow w.heap.size 5 1 (.slice oa2 (encE es).length cap2) (encE es).length (cu8 (encE es)) ∧ Grew w w' none oa2 := by
  have HE : Hid (ESrc w oE m cE es) := hE
  have HD : Hid (∀ x ∈ es, x.d.length ≤ 1024) := hd
  clear hE hd
  go_enter Ybaf.func13, Ybaf.ntmps13
  go_wp2_with fail
  go_loopw [3, 8] (fun b i wr => ∃ (k : Nat) (oa : Option Addr) (cap : Nat), k ≤ m ∧ i = .int .i64 (k : Nat) ∧ b = .slice oa (encE (es.take k)).length cap ∧ wr.ownsRow w.heap.size 5 1 (.slice oa (encE (es.take k)).length cap) (encE (es.take k)).length (cu8 (encE (es.take k))) ∧ Grew w wr none oa) (fun _ i _ => m - (intOf i).toNat)
  case atStart => exact ⟨0, none, 0, Nat.zero_le _, rfl, rfl, World.ownsRow_nil _ _ _ _, Grew.refl _ _⟩
  case round =>
    obtain ⟨k, oa, cap, hk, rfl, rfl, hown, hg⟩ := hrel
    have hs := hg.size
    by_cases hlt : k < m
    · obtain ⟨b, off, rfl, hb, x, hx, c1, c2⟩ := (HE.out.grew hg).at_ hlt
      have hmem : x ∈ es := List.mem_of_getElem? hx
      obtain ⟨hx0, hx1⟩ := HE.out.fits x hmem
      have HX : Hid (es[k]? = some x) := hx
      have hbd := encE_bound (es.take k) fun y hy => HD.out y (List.mem_of_mem_take hy)
      have hd1 := HD.out x hmem
      have htl : (es.take k).length ≤ k := by simp; omega
      have HS : Hid (Src wr x.ob x.d.length 1 x.c (cu8 x.d)) := (HE.out.data x hmem).grew hg (by simp [blk])
      have HP : Hid (∀ j, blk x.ob = some j → blk oa ≠ some j) := (HE.out.data x hmem).apart hg
      have HB : Hid ((encE (es.take (k + 1))) = encE (es.take k) ++ ([x.ty / 256, x.ty % 256] ++ [(x.d.length : Int) / 256, (x.d.length : Int) % 256] ++ x.d)) := by
        show _ = _
        rw [List.take_add_one, HX.out, encE_snoc]
      generalize encE (es.take k) = pre at *
      have hN : pre.length ≤ 300000 := by omega
      generalize hNN : pre.length = N at *
      have HO : Hid (wr.ownsRow w.heap.size 5 1 (.slice oa N cap) N (cu8 pre)) := hown
      have HG : Hid (Grew w wr none oa) := hg
      clear hx hown hg hbd hmem htl
      obtain ⟨ty, ob, c, d⟩ := x
      simp only at *
      generalize hdl : d.length = dl at *
      have hoa : blk oa ≠ some wr.heap.size := fun e => by have := (owns_lt HO.out _ e).2; omega
      go_wp2_with fail
      refine (uint2 ty w.heap.size oa N cap pre _ hx0 hx1 (HO.out.alloc _) (by omega) (by simp; omega)).mono ?_
      rintro e w2 ⟨oa2, cap2, rfl, hown2, hg2⟩
      have c3 : w2.cell? ⟨wr.heap.size, 1, none⟩ = some (.slice ob dl c) := hg2.grown.cell (cell_new1 wr 36 _ _) fun e => hoa e.symm
      have hs2 := hg2.size
      simp at hs2
      have HG2 : Hid (Grew wr w2 oa oa2) := (Grew.alloc _ _ _).trans hg2
      have HO2 : Hid (w2.ownsRow w.heap.size 5 1 (.slice oa2 (N + 2) cap2) (N + 2) (cu8 (pre ++ [ty / 256, ty % 256]))) := hown2
      clear hg2 hown2
      go_wp2_with fail
      have HP2 : ∀ j, blk ob = some j → blk oa2 ≠ some j := fun j hj e => by
        rcases HG2.out.at_ j e with h1 | h1
        · exact HP.out j hj h1
        · have := HS.out.lt j hj; omega
      refine (vec2 w.heap.size oa2 (N + 2) cap2 _ ob dl c d w2 HO2.out (HS.out.grew HG2.out HP.out) HP2 (by omega) (by omega) (by omega)).mono ?_
      clear HP2
      rintro e w3 ⟨oa3, cap3, rfl, hown3, hg3⟩
      have HG3 : Hid (Grew w w3 none oa3) := (HG.out.trans HG2.out).trans hg3
      have HO3 : Hid (w3.ownsRow w.heap.size 5 1 (.slice oa3 (N + 2 + 2 + dl) cap3) (N + 2 + 2 + dl) (cu8 (encE (es.take (k + 1))))) := by
        have h := hown3
        rw [show pre ++ [ty / 256, ty % 256] ++ [(dl : Int) / 256, (dl : Int) % 256] ++ d = encE (es.take (k + 1)) from by rw [HB.out]; simp] at h
        exact h
      have HL : Hid ((encE (es.take (k + 1))).length = N + 2 + 2 + dl) := by
        have := HO3.out.1
        rw [cu8_length] at this
        exact by show _ = _; omega
      clear hg3 hown3
      go_wp2_with fail
      go_roundw
      case rel =>
        refine ⟨k + 1, oa3, cap3, by omega, by go_num, ?_, ?_, HG3.out⟩
        · rw [HL.out]
        · rw [HL.out]; exact HO3.out
      case measure => simp [intOf]; omega
    · have hkn : k = m := by omega
      subst hkn
      rw [List.take_of_length_le (by rw [HE.out.length]; omega)] at *
      go_wp2
      go_ret
      exact ⟨oa, cap, rfl, hown, hg⟩
end Go.Proofs.YbulkjucFmt

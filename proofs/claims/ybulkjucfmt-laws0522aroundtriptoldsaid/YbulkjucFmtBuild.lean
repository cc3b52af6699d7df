import Derived.Test.YbulkjucFmtOwn
import Derived.Deep.RegionLaw
import Derived.Deep.CutRange
import Derived.Deep.Cut
namespace Go.Proofs.YbulkjucFmt
open Go.RowKit
attribute [local go_sem ↓] Go.wp_at_zero Go.wp_at_succ

/-- What is read of an extension: its type, its data. -/
def key (x : EX) : Int × List Int := (x.ty, x.d)
theorem Src.take {w : World} {oS : Option Addr} {n c m : Nat} {S : List Int} (h : Src w oS n 1 c (cu8 S)) (hm : m ≤ n) (h0 : 0 < n) : Src w oS m 1 c (cu8 (S.take m)) := by
  obtain ⟨hl, h⟩ := h
  rw [cu8_length] at hl
  refine ⟨by rw [cu8_length]; simp; omega, ?_⟩
  rcases h with ⟨_, rfl, _⟩ | ⟨b, off, rfl, hb, hc⟩
  · omega
  · refine Or.inr ⟨b, off, rfl, hb, fun j u hj => hc j u ?_⟩
    simp only [cu8, List.map_take, List.getElem?_take] at hj
    split at hj
    · exact hj
    · cases hj

/-- What the building has made after k extensions. -/
structure Mid (w wr : World) (hb : Nat) (R S U : List Int) (es : List EX) (h : HV) : Prop where
  own : HOwn w.heap.size wr hb h
  low : Below w.heap.size w wr
  eR : h.R = R
  eS : h.S = S
  eU : h.U = U
  ks : h.es.map key = es.map key

theorem ESrc.below {w w' : World} {oE : Option Addr} {m c : Nat} {es : List EX} (h : ESrc w oE m c es) (hb : Below w.heap.size w w') : ESrc w' oE m c es :=
  ⟨h.row.below hb h.row.lt, fun x hx => (h.data x hx).below hb (h.data x hx).lt, h.fits⟩
theorem Mid.grew {w wr w' : World} {hb : Nat} {R S U : List Int} {es : List EX} {h : HV} {o2 : Option Addr} (M : Mid w wr hb R S U es h) (hg : Grew wr w' none o2) : Mid w w' hb R S U es h :=
  ⟨M.own.grew hg, M.low.trans (hg.below M.low.size (by simp [blk])), M.eR, M.eS, M.eU, M.ks⟩
theorem cell_new0 (w : World) (t : TypeId) (x y : Value) : (w.alloc (.cells #[x, y] t)).cell? ⟨w.heap.size, 0, none⟩ = some x := by
  rw [cell_of_row _ _ _ _ _ _ (heap_alloc_new w _)]; rfl
theorem Mid.ext {w We wA : World} {hb k : Nat} {R S U : List Int} {es : List EX} {h : HV} {o2 : Option Addr} (M : Mid w We hb R S U es h) (hg : Grew We.drew wA none o2) (hk : h.mE = k) (o : Obj) : (wA.alloc o).ownsRow w.heap.size 36 2 (.slice h.oE k h.cE) k (ecells h.es) := by
  subst hk
  exact ((M.grew ((grew_drew We none).next hg)).own.e).alloc o

theorem Mid.blkB {w We wA wB : World} {hb : Nat} {R S U : List Int} {es : List EX} {h : HV} {o2 o3 : Option Addr} {o : Obj} (M : Mid w We hb R S U es h) (hg : Grew We.drew wA none o2) (hB : Grew (wA.alloc o) wB h.oE o3) : Blk4 wB hb (.slice h.oR 32 h.cR) (.slice h.oS h.mS h.cS) (.slice h.oU h.mU h.cU) (.slice h.oE h.mE h.cE) := by
  have M2 := (M.grew ((grew_drew We none).next hg)).grew (Grew.alloc wA o none)
  exact M2.own.blk.grew hB (owns_ne4 M2.own.e M2.own.blk (by decide))

theorem Mid.room {w We wA : World} {hb : Nat} {R S U : List Int} {es : List EX} {h : HV} {o2 : Option Addr} (M : Mid w We hb R S U es h) (hg : Grew We.drew wA none o2) (o : Obj) : w.heap.size ≤ (wA.alloc o).heap.size := by
  have h1 := M.low.size
  have h2 : We.heap.size ≤ wA.heap.size := hg.size
  simp
  omega
theorem src_ext (wA : World) {ty : Int} {oD : Option Addr} {cD dl : Nat} {d : List Int} (hdl : d.length = dl) : Src (wA.alloc (.cells #[.int .u16 ty, .slice oD dl cD] 36)) (some ⟨wA.heap.size, 0, none⟩) 1 2 1 (EX.mk ty oD cD d).cells := by
  subst hdl
  exact src_new wA 36 [.int .u16 ty, .slice oD d.length cD] 1 2 1 rfl
theorem Mid.push {w We wA wB : World} {hb k dl cD cE2 : Nat} {R S U : List Int} {es : List EX} {h : HV} {oD oE2 ob : Option Addr} {c : Nat} {ty : Int} {d : List Int} {o : Obj} (M : Mid w We hb R S U (es.take k) h) (hk : h.mE = k) (hdl : d.length = dl) (hx : es[k]? = some ⟨ty, ob, c, d⟩) (hty : 0 ≤ ty ∧ ty < 65536)
    (hgA : Grew We.drew wA none oD) (hownD : wA.ownsRow w.heap.size 5 1 (.slice oD dl cD) dl (cu8 d)) (hgB : Grew (wA.alloc o) wB h.oE oE2) (hownB : wB.ownsRow w.heap.size 36 2 (.slice oE2 (k + 1) cE2) (k + 1) (ecells (h.es ++ [⟨ty, oD, cD, d⟩]))) :
    Mid w (wB.setCell ⟨hb, 3, none⟩ (.slice oE2 (k + 1) cE2)) hb R S U (es.take (k + 1)) (h.push oE2 cE2 ⟨ty, oD, cD, d⟩) := by
  subst hk hdl
  have M2 := (M.grew ((grew_drew We none).next hgA)).grew (Grew.alloc wA o none)
  refine ⟨M2.own.push (hownD.alloc o) hty hgB hownB, ?_, M.eR, M.eS, M.eU, ?_⟩
  · exact (M2.low.trans (hgB.below M2.low.size fun j hj => (owns_lt M2.own.e j hj).1)).setCell (p := ⟨hb, 3, none⟩) M.own.ge _
  · rw [List.take_add_one, hx]
    simp [HV.push, M.ks, key]

abbrev nilV : Value := .slice none 0 0
section
variable {w w1 w2 w3 : World} {oR oS2 oU2 : Option Addr} {cR mS cS2 nU cU2 : Nat} {R S U : List Int}
theorem st_low1 (hgR : Grew w w1 none oR) : Below w.heap.size w w1 := hgR.below (Nat.le_refl _) (by simp [blk])
theorem st_b2 {v : Value} (hgS : Grew (w1.alloc (.cells #[v, nilV, nilV, nilV] 32)) w2 none oS2) : Blk4 w2 w1.heap.size v nilV nilV nilV :=
  Blk4.grew (w := w1.alloc (.cells #[v, nilV, nilV, nilV] 32)) (heap_alloc_new w1 _) hgS (by simp [blk])
theorem st_low2 {v : Value} {o : Obj} (hgR : Grew w w1 none oR) (hgS : Grew (w1.alloc o) w2 none oS2) : Below w.heap.size w (w2.setCell ⟨w1.heap.size, 1, none⟩ v) := by
  have h1 := hgR.size
  exact ((((st_low1 hgR).alloc h1 _).trans (hgS.below (by simp; omega) (by simp [blk]))).setCell (p := ⟨w1.heap.size, 1, none⟩) h1 _)
theorem st_b3 {v vS : Value} {hb : Nat} (h : Blk4 w2 hb v nilV nilV nilV) (hgU : Grew (w2.setCell ⟨hb, 1, none⟩ vS) w3 none oU2) : Blk4 w3 hb v vS nilV nilV := (h.set1 vS).grew hgU (by simp [blk])

/-- The hello before its extensions. -/
def hv0 (oR : Option Addr) (cR : Nat) (R : List Int) (oS : Option Addr) (mS cS : Nat) (S : List Int) (oU : Option Addr) (mU cU : Nat) (U : List Int) : HV := ⟨oR, cR, R, oS, mS, cS, S, oU, mU, cU, U, none, 0, 0, []⟩
theorem mid_start (es : List EX) (hgR : Grew w w1 none oR) (hownR : w1.ownsRow w.heap.size 5 1 (.slice oR 32 cR) 32 (cu8 R))
    (hgS : Grew (w1.alloc (.cells #[.slice oR 32 cR, nilV, nilV, nilV] 32)) w2 none oS2) (hownS : w2.ownsRow w.heap.size 5 1 (.slice oS2 mS cS2) mS (cu8 S))
    (hgU : Grew (w2.setCell ⟨w1.heap.size, 1, none⟩ (.slice oS2 mS cS2)) w3 none oU2) (hownU : w3.ownsRow w.heap.size 34 1 (.slice oU2 nU cU2) nU (cu16 U)) :
    Mid w (w3.setCell ⟨w1.heap.size, 2, none⟩ (.slice oU2 nU cU2)) w1.heap.size R S U (es.take 0) (hv0 oR cR R oS2 mS cS2 S oU2 nU cU2 U) := by
  have b2 := st_b2 hgS
  have b3 := st_b3 b2 hgU
  have k5 : ∀ {oa : Option Addr} {n cap : Nat} {xs : List Value}, w2.ownsRow w.heap.size 5 1 (.slice oa n cap) n xs → (w3.setCell ⟨w1.heap.size, 2, none⟩ (.slice oU2 nU cU2)).ownsRow w.heap.size 5 1 (.slice oa n cap) n xs := fun h2 => by
    have h3 := owns_kept (owns_kept h2 (grew_set _ w1.heap.size 1 (.slice oS2 mS cS2)) fun k hk e => owns_ne4 h2 b2 (by decide) (hk.trans e.symm)) hgU (by simp [blk])
    exact owns_kept h3 (grew_set _ _ _ _) fun k hk e => owns_ne4 h3 b3 (by decide) (hk.trans e.symm)
  refine ⟨⟨hgR.size, b3.set2 _, k5 (owns_kept (hownR.alloc _) hgS (by simp [blk])), k5 hownS, owns_kept hownU (grew_set _ _ _ _) fun k hk e => owns_ne4 hownU b3 (by decide) (hk.trans e.symm), World.ownsRow_nil _ _ _ _, by simp [hv0], by simp [hv0]⟩, ?_, rfl, rfl, rfl, rfl⟩
  have h1 := hgR.size
  have h2 := hgS.size
  simp at h2
  exact ((st_low2 hgR hgS).trans (hgU.below (by simp; omega) (by simp [blk]))).setCell (p := ⟨w1.heap.size, 2, none⟩) h1 _
end

theorem Src.first {w : World} {oS : Option Addr} {n c : Nat} {S : List Int} (h : Src w oS n 1 c (cu8 S)) : Src w oS (min n 32) 1 c (cu8 (S.take 32)) := by
  by_cases h0 : 0 < n
  · have h1 := h.take (m := min n 32) (by omega) h0
    have hl := h.1
    rw [cu8_length] at hl
    rw [show S.take (min n 32) = S.take 32 from by
      by_cases h2 : n ≤ 32
      · rw [List.take_of_length_le (by omega), List.take_of_length_le (by omega)]
      · rw [show min n 32 = 32 from by omega]] at h1
    exact h1
  · obtain ⟨hl, h⟩ := h
    have hn : n = 0 := by omega
    subst hn
    rw [cu8_length] at hl
    have hS : S = [] := List.eq_nil_of_length_eq_zero (by omega)
    subst hS
    exact ⟨by simp [cu8], h⟩

set_option maxRecDepth 100000 in
set_option maxHeartbeats 1600000 in
theorem build_plain (R S U : List Int) (nS cS nU cU nE cE : Nat) (oS oU oE : Option Addr) (es : List EX) (w : World) (hR : R.length = 32) (hS : Src w oS nS 1 cS (cu8 S)) (hSc : nS ≤ cS) (hSm : nS ≤ maxLen) (hU : Src w oU nU 1 cU (cu16 U)) (hE : AESrc w oE nE cE es) (hnU : nU ≤ 1024) (hnE : nE ≤ 256) (hd : ∀ x ∈ es, x.d.length ≤ 1024) :
    Calls Ybaf.prog 6 #[.agg (cu8 R).toArray, .slice oS nS cS, .slice oU nU cU, .slice oE nE cE, .bool false] w fun e w' => ∃ hb h, e = .returned (.pointer (some ⟨hb, 0, none⟩)) ∧ Mid w w' hb R (S.take 32) U es h ∧ h.mE = nE := by
  have HR : Hid (R.length = 32) := hR
  have HS : Hid (Src w oS (min nS 32) 1 cS (cu8 (S.take 32))) := hS.first
  have HSn : Hid (oS = none ∧ nS = 0 ∧ cS = 0 ∨ ∃ b off, oS = some ⟨b, off, none⟩) := by
    rcases hS.2 with h | ⟨b, off, h, _⟩
    · exact Or.inl h
    · exact Or.inr ⟨b, off, h⟩
  have HU : Hid (Src w oU nU 1 cU (cu16 U)) := hU
  have HE : Hid (AESrc w oE nE cE es) := hE
  have HD : Hid (∀ x ∈ es, x.d.length ≤ 1024) := hd
  clear hR hS hU hE hd
  go_enter Ybaf.func6, Ybaf.ntmps6
  go_upto_if 24 with (first
    | (at_builtin; refine app8_0 rfl (.const (.slice none 0 0)) (.tmp 17) (by rfl) w.heap.size (by rfl) (some ⟨w.heap.size, 0, none⟩) 32 32 R (by rfl) (src_new w 22 (cu8 R) 32 1 32 (by rw [cu8_length, HR.out])) (by omega) (by simp) ?_; intro oR cR w1 hownR hgR0; have hgR := (Grew.alloc w _ none).next hgR0; clear hgR0))
  generalize hB1 : w1.alloc (.cells #[.slice oR 32 cR, nilV, nilV, nilV] 32) = B1
  have HB1 : Hid (w1.alloc (.cells #[.slice oR 32 cR, nilV, nilV, nilV] 32) = B1) := hB1
  clear hB1
  obtain ⟨mS, hmS⟩ : ∃ m, m = min nS 32 := ⟨_, rfl⟩
  rw [← hmS] at HS
  have HmS : Hid (mS = min nS 32) := hmS
  have hm1 : mS ≤ nS := by omega
  have hm2 : mS ≤ 32 := by omega
  clear hmS
  go_cut [12] from 17 (fun s12 wx => s12 = .int .i64 (mS : Nat) ∧ wx = B1)
  case first =>
    by_cases hs : nS ≤ 32
    · go_wp2
      go_meet
      case rel => exact ⟨by rw [show mS = nS from by have := HmS.out; omega], rfl⟩
    · go_wp2
      go_meet
      case rel => exact ⟨by rw [show mS = 32 from by have := HmS.out; omega]; rfl, rfl⟩
  case rest =>
    obtain ⟨rfl, rfl⟩ := hcut
    go_upto_region 5 with fail
    go_cut [12] from 17 (fun s12 wx => s12 = .int .i64 (mS : Nat) ∧ ∃ oS2 cS2 w2, wx = w2.setCell ⟨w1.heap.size, 1, none⟩ (.slice oS2 mS cS2) ∧ w2.ownsRow w.heap.size 5 1 (.slice oS2 mS cS2) mS (cu8 (S.take 32)) ∧ Grew (w1.alloc (.cells #[.slice oR 32 cR, nilV, nilV, nilV] 32)) w2 none oS2)
    case first =>
      have hlow : w.heap.size ≤ wc.heap.size := by have := hgR.size; rw [← HB1.out]; simp; omega
      have HSB : Hid (Src wc oS mS 1 cS (cu8 (S.take 32))) := by
        rw [← HB1.out]
        exact HS.out.grew (hgR.trans (Grew.alloc _ _ _)) (by simp [blk])
      have HB2 : ∀ {oS2 : Option Addr} {w2 : World}, Grew wc w2 none oS2 → Blk4 w2 w1.heap.size (.slice oR 32 cR) nilV nilV nilV := fun h => by
        rw [← HB1.out] at h
        exact st_b2 h
      rcases HSn.out with ⟨rfl, rfl, rfl⟩ | ⟨bS, offS, rfl⟩
      · have hm0 : mS = 0 := by omega
        subst hm0
        have HB2' : Hid (∀ {oS2 : Option Addr} {w2 : World}, Grew wc w2 none oS2 → Blk4 w2 w1.heap.size (.slice oR 32 cR) nilV nilV nilV) := HB2
        clear HB2
        go_wp2_with (first
          | (at_builtin; refine app8_0 rfl (.const (.slice none 0 0)) (.tmp 28) (by rfl) w.heap.size (by rfl) none 0 0 _ (by rfl) HSB.out (by omega) hlow ?_; intro oS2 cS2 w2 hownS hgS; have cw := (HB2'.out hgS).cell1; have fw := (HB2'.out hgS).frozen 1))
        go_meet
        case rel => exact ⟨rfl, oS2, cS2, w2, rfl, hownS, by rw [HB1.out]; exact hgS⟩
      · have HB2' : Hid (∀ {oS2 : Option Addr} {w2 : World}, Grew wc w2 none oS2 → Blk4 w2 w1.heap.size (.slice oR 32 cR) nilV nilV nilV) := HB2
        clear HB2
        go_wp2_with (first
          | (at_builtin; refine app8_0 rfl (.const (.slice none 0 0)) (.tmp 28) (by rfl) w.heap.size (by rfl) (some ⟨bS, offS, none⟩) mS cS _ (by rfl) HSB.out (by omega) hlow ?_; intro oS2 cS2 w2 hownS hgS; have cw := (HB2'.out hgS).cell1; have fw := (HB2'.out hgS).frozen 1))
        go_meet
        case rel => exact ⟨rfl, oS2, cS2, w2, rfl, hownS, by rw [HB1.out]; exact hgS⟩
    case rest =>
      obtain ⟨rfl, oS2, cS2, w2, rfl, hownS, hgS⟩ := hcut
      clear HB1
      go_wp2_with (first
        | (at_builtin; refine app16_0 rfl (.const (.slice none 0 0)) (.tmp 33) (by rfl) w.heap.size (by rfl) oU nU cU U (by rfl) (HU.out.below (st_low2 hgR hgS) HU.out.lt) (by omega) (st_low2 hgR hgS).size ?_; intro oU2 cU2 w3 hownU hgU; have cw3 := (st_b3 (st_b2 hgS) hgU).cell2; have fw3 := (st_b3 (st_b2 hgS) hgU).frozen 2))
      clear cw3 fw3
      have M0 := mid_start es hgR hownR hgS hownS hgU hownU
      generalize hWW : w3.setCell ⟨w1.heap.size, 2, none⟩ (.slice oU2 nU cU2) = WW at *
      generalize hhb : w1.heap.size = hb at *
      generalize hhv : hv0 oR cR R oS2 mS cS2 (S.take 32) oU2 nU cU2 U = h0 at *
      have hE0 : h0.mE = 0 := by rw [← hhv]; rfl
      clear hgR hownR hgS hownS hgU hownU hWW hhb hhv
      go_loopw [13] (fun i wr => ∃ (k : Nat) (h : HV), k ≤ nE ∧ i = .int .i64 (k : Nat) ∧ h.mE = k ∧ Mid w wr hb R (S.take 32) U (es.take k) h) (fun i _ => nE - (intOf i).toNat)
      case atStart => exact ⟨0, h0, Nat.zero_le _, rfl, hE0, M0⟩
      case round =>
        obtain ⟨k, h, hk, rfl, hmE, M⟩ := hrel
        by_cases hlt : k < nE
        · obtain ⟨b, off, rfl, hbl, x, hx, c1, c2⟩ := (HE.out.below M.low).at_ hlt
          have hmem : x ∈ es := List.mem_of_getElem? hx
          obtain ⟨hx0, hx1⟩ := HE.out.fits x hmem
          have hd1 := HD.out x hmem
          have HX : Hid (es[k]? = some x) := hx
          have HSx : Hid (ASrc wr x.ob x.d.length 1 x.c (cu8 x.d)) := (HE.out.data x hmem).below M.low
          have HM : Hid (Mid w wr hb R (S.take 32) U (es.take k) h) := M
          have hmE' : Hid (h.mE = k) := hmE
          have hsz := M.low.size
          have hbs : hb < wr.heap.size := M.own.blk.lt
          clear M hx hmem hmE
          obtain ⟨ty, ob, c, d⟩ := x
          simp only at *
          generalize hdl : d.length = dl at *
          go_upto_region 19 with fail
          generalize hWe : wr.alloc (.cells #[.int .u16 ty, .slice ob dl c] 43) = We
          have HG : Hid (Grew wr We none none) := by rw [← hWe]; exact Grew.alloc _ _ _
          have HM2 : Hid (Mid w We hb R (S.take 32) U (es.take k) h) := HM.out.grew HG.out
          have hcE0 : We.cell? ⟨wr.heap.size, 0, none⟩ = some (.int .u16 ty) := by rw [← hWe]; exact cell_new0 wr 43 _ _
          have hcE1 : We.cell? ⟨wr.heap.size, 1, none⟩ = some (.slice ob dl c) := by rw [← hWe]; exact cell_new1 wr 43 _ _
          have hc3 : We.cell? ⟨hb, 3, none⟩ = some (.slice h.oE k h.cE) := by have := HM2.out.own.blk.cell3; rwa [hmE'.out] at this
          have hWs : wr.heap.size + 1 = We.heap.size := by rw [← hWe]; simp
          have hlWe : hb < We.heap.size := by omega
          have hlWr : wr.heap.size < We.heap.size := by omega
          clear hWe c1 c2
          go_region_law (first
            | (refine app8_step0 (by rfl) (.const (.slice none 0 0)) (.tmp 77) (by rfl) w.heap.size (by rfl) ob dl c d (by rfl) (HSx.out.grew (HG.out.trans (grew_drew _ none))) (by omega) (by show w.heap.size ≤ We.heap.size; omega) ?_; intro oD cD wA hownD hgA; have hA0 := hgA.keep hcE0; have hA1 := hgA.keep hcE1; have hc3A := hgA.keep hc3; have hsA := hgA.size; have hbA : hb < wA.heap.size := Nat.lt_of_lt_of_le (by show hb < We.heap.size; omega) hsA)
            | (refine appE_step (by rfl) (.tmp 73) (.tmp 80) (by rfl) w.heap.size h.oE k h.cE h.es (by rfl) (HM2.out.ext hgA hmE'.out _) (some ⟨wA.heap.size, 0, none⟩) 1 ⟨ty, oD, cD, d⟩ (by rfl) (src_ext wA hdl) (by omega) (HM2.out.room hgA _) ?_; intro oE2 cE2 wB hownB hgB; have B3 := HM2.out.blkB hgA hgB; have hB3 := B3.cell3; have fB3 := B3.frozen 3; clear B3))
          all_goals
            have HM' := HM2.out.push hmE'.out hdl HX.out ⟨hx0, hx1⟩ hgA hownD hgB hownB
            have hm' : (h.push oE2 cE2 ⟨ty, oD, cD, d⟩).mE = k + 1 := congrArg (· + 1) hmE'.out
            generalize h.push oE2 cE2 ⟨ty, oD, cD, d⟩ = h' at *
            generalize wB.setCell ⟨hb, 3, none⟩ (.slice oE2 (k + 1) cE2) = wX at *
            clear HM HM2 HG hcE0 hcE1 hc3 hA0 hA1 hc3A hgA hownD hgB hownB hB3 fB3
            have HM3 : Hid (Mid w wX hb R (S.take 32) U (es.take (k + 1)) h') := HM'
            clear HM'
            go_wp2
            go_roundw
            case rel => exact ⟨k + 1, h', by omega, by go_num, hm', HM3.out⟩
            case measure => simp [intOf]; omega
        · have hkn : k = nE := by omega
          subst hkn
          go_wp2
          go_ret
          refine ⟨hb, h, rfl, ?_, hmE⟩
          rw [List.take_of_length_le (l := es) (by rw [HE.out.length]; omega)] at M
          exact M
end Go.Proofs.YbulkjucFmt

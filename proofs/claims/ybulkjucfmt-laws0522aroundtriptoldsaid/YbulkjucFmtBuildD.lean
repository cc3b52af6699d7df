import Derived.Test.YbulkjucFmtDed
import Derived.BigRegion
import Derived.BigQuiet
import Derived.Deep.QuietTactic
namespace Go.Proofs.YbulkjucFmt
open Go.RowKit
attribute [local go_sem ↓] Go.wp_at_zero Go.wp_at_succ

theorem Mid.pushD {w We wA wB : World} {hb k dl cD cE2 : Nat} {R S U : List Int} {es : List EX} {h : HV} {oD oE2 ob : Option Addr} {c : Nat} {ty : Int} {d : List Int} {o : Obj} (M : Mid w We hb R S U (ded (es.take k)) h) (hdl : d.length = dl) (hx : es[k]? = some ⟨ty, ob, c, d⟩) (hno : ((ded (es.take k)).map EX.ty).contains ty = false) (hty : 0 ≤ ty ∧ ty < 65536)
    (hgA : Grew We.drew wA none oD) (hownD : wA.ownsRow w.heap.size 5 1 (.slice oD dl cD) dl (cu8 d)) (hgB : Grew (wA.alloc o) wB h.oE oE2) (hownB : wB.ownsRow w.heap.size 36 2 (.slice oE2 (h.mE + 1) cE2) (h.mE + 1) (ecells (h.es ++ [⟨ty, oD, cD, d⟩]))) :
    Mid w (wB.setCell ⟨hb, 3, none⟩ (.slice oE2 (h.mE + 1) cE2)) hb R S U (ded (es.take (k + 1))) (h.push oE2 cE2 ⟨ty, oD, cD, d⟩) := by
  subst hdl
  have M2 := (M.grew ((grew_drew We none).next hgA)).grew (Grew.alloc wA o none)
  refine ⟨M2.own.push (hownD.alloc o) hty hgB hownB, ?_, M.eR, M.eS, M.eU, ?_⟩
  · exact (M2.low.trans (hgB.below M2.low.size fun j hj => (owns_lt M2.own.e j hj).1)).setCell (p := ⟨hb, 3, none⟩) M.own.ge _
  · rw [List.take_add_one, hx, ded_snoc]
    unfold dstep
    rw [if_neg (by rw [hno]; simp)]
    simp [HV.push, M.ks, key]

set_option maxRecDepth 100000 in
set_option maxHeartbeats 1600000 in
theorem build_ded (R S U : List Int) (nS cS nU cU nE cE : Nat) (oS oU oE : Option Addr) (es : List EX) (w : World) (hR : R.length = 32) (hS : Src w oS nS 1 cS (cu8 S)) (hSc : nS ≤ cS) (hSm : nS ≤ maxLen) (hU : Src w oU nU 1 cU (cu16 U)) (hE : AESrc w oE nE cE es) (hnU : nU ≤ 1024) (hnE : nE ≤ 256) (hd : ∀ x ∈ es, x.d.length ≤ 1024) :
    Calls Ybaf.prog 6 #[.agg (cu8 R).toArray, .slice oS nS cS, .slice oU nU cU, .slice oE nE cE, .bool true] w fun e w' => ∃ hb h, e = .returned (.pointer (some ⟨hb, 0, none⟩)) ∧ Mid w w' hb R (S.take 32) U (ded es) h := by
  have HR : Hid (R.length = 32) := hR
  have HS : Hid (Src w oS (min nS 32) 1 cS (cu8 (S.take 32))) := hS.first
  have HSn : Hid (oS = none ∧ nS = 0 ∧ cS = 0 ∨ ∃ b off, oS = some ⟨b, off, none⟩) := by
    rcases hS.2 with h | ⟨b, off, h, _⟩
    · exact Or.inl h
    · exact Or.inr ⟨b, off, h⟩
  have HU : Hid (Src w oU nU 1 cU (cu16 U)) := hU
  have HE : Hid (AESrc w oE nE cE es) := hE
  have HD : Hid (∀ x ∈ es, x.d.length ≤ 1024) := hd
  clear hR hS hU hE hd
  go_enter Ybaf.func6, Ybaf.ntmps6
  go_upto_if 24 with (first
    | (at_builtin; refine app8_0 rfl (.const (.slice none 0 0)) (.tmp 17) (by rfl) w.heap.size (by rfl) (some ⟨w.heap.size, 0, none⟩) 32 32 R (by rfl) (src_new w 22 (cu8 R) 32 1 32 (by rw [cu8_length, HR.out])) (by omega) (by simp) ?_; intro oR cR w1 hownR hgR0; have hgR := (Grew.alloc w _ none).next hgR0; clear hgR0))
  generalize hB1 : w1.alloc (.cells #[.slice oR 32 cR, nilV, nilV, nilV] 32) = B1
  have HB1 : Hid (w1.alloc (.cells #[.slice oR 32 cR, nilV, nilV, nilV] 32) = B1) := hB1
  clear hB1
  obtain ⟨mS, hmS⟩ : ∃ m, m = min nS 32 := ⟨_, rfl⟩
  rw [← hmS] at HS
  have HmS : Hid (mS = min nS 32) := hmS
  have hm1 : mS ≤ nS := by omega
  have hm2 : mS ≤ 32 := by omega
  clear hmS
  go_cut [12] from 17 (fun s12 wx => s12 = .int .i64 (mS : Nat) ∧ wx = B1)
  case first =>
    by_cases hs : nS ≤ 32
    · go_wp2
      go_meet
      case rel => exact ⟨by rw [show mS = nS from by have := HmS.out; omega], rfl⟩
    · go_wp2
      go_meet
      case rel => exact ⟨by rw [show mS = 32 from by have := HmS.out; omega]; rfl, rfl⟩
  case rest =>
    obtain ⟨rfl, rfl⟩ := hcut
    go_upto_region 5 with fail
    go_cut [12] from 17 (fun s12 wx => s12 = .int .i64 (mS : Nat) ∧ ∃ oS2 cS2 w2, wx = w2.setCell ⟨w1.heap.size, 1, none⟩ (.slice oS2 mS cS2) ∧ w2.ownsRow w.heap.size 5 1 (.slice oS2 mS cS2) mS (cu8 (S.take 32)) ∧ Grew (w1.alloc (.cells #[.slice oR 32 cR, nilV, nilV, nilV] 32)) w2 none oS2)
    case first =>
      have hlow : w.heap.size ≤ wc.heap.size := by have := hgR.size; rw [← HB1.out]; simp; omega
      have HSB : Hid (Src wc oS mS 1 cS (cu8 (S.take 32))) := by
        rw [← HB1.out]
        exact HS.out.grew (hgR.trans (Grew.alloc _ _ _)) (by simp [blk])
      have HB2 : ∀ {oS2 : Option Addr} {w2 : World}, Grew wc w2 none oS2 → Blk4 w2 w1.heap.size (.slice oR 32 cR) nilV nilV nilV := fun h => by
        rw [← HB1.out] at h
        exact st_b2 h
      rcases HSn.out with ⟨rfl, rfl, rfl⟩ | ⟨bS, offS, rfl⟩
      · have hm0 : mS = 0 := by omega
        subst hm0
        have HB2' : Hid (∀ {oS2 : Option Addr} {w2 : World}, Grew wc w2 none oS2 → Blk4 w2 w1.heap.size (.slice oR 32 cR) nilV nilV nilV) := HB2
        clear HB2
        go_wp2_with (first
          | (at_builtin; refine app8_0 rfl (.const (.slice none 0 0)) (.tmp 28) (by rfl) w.heap.size (by rfl) none 0 0 _ (by rfl) HSB.out (by omega) hlow ?_; intro oS2 cS2 w2 hownS hgS; have cw := (HB2'.out hgS).cell1; have fw := (HB2'.out hgS).frozen 1))
        go_meet
        case rel => exact ⟨rfl, oS2, cS2, w2, rfl, hownS, by rw [HB1.out]; exact hgS⟩
      · have HB2' : Hid (∀ {oS2 : Option Addr} {w2 : World}, Grew wc w2 none oS2 → Blk4 w2 w1.heap.size (.slice oR 32 cR) nilV nilV nilV) := HB2
        clear HB2
        go_wp2_with (first
          | (at_builtin; refine app8_0 rfl (.const (.slice none 0 0)) (.tmp 28) (by rfl) w.heap.size (by rfl) (some ⟨bS, offS, none⟩) mS cS _ (by rfl) HSB.out (by omega) hlow ?_; intro oS2 cS2 w2 hownS hgS; have cw := (HB2'.out hgS).cell1; have fw := (HB2'.out hgS).frozen 1))
        go_meet
        case rel => exact ⟨rfl, oS2, cS2, w2, rfl, hownS, by rw [HB1.out]; exact hgS⟩
    case rest =>
      obtain ⟨rfl, oS2, cS2, w2, rfl, hownS, hgS⟩ := hcut
      clear HB1
      go_wp2_with (first
        | (at_builtin; refine app16_0 rfl (.const (.slice none 0 0)) (.tmp 33) (by rfl) w.heap.size (by rfl) oU nU cU U (by rfl) (HU.out.below (st_low2 hgR hgS) HU.out.lt) (by omega) (st_low2 hgR hgS).size ?_; intro oU2 cU2 w3 hownU hgU; have cw3 := (st_b3 (st_b2 hgS) hgU).cell2; have fw3 := (st_b3 (st_b2 hgS) hgU).frozen 2))
      clear cw3 fw3
      have M0 := mid_start (ded (es.take 0)) hgR hownR hgS hownS hgU hownU
      generalize hWW : w3.setCell ⟨w1.heap.size, 2, none⟩ (.slice oU2 nU cU2) = WW at *
      generalize hhb : w1.heap.size = hb at *
      generalize hhv : hv0 oR cR R oS2 mS cS2 (S.take 32) oU2 nU cU2 U = h0 at *
      clear hgR hownR hgS hownS hgU hownU hWW hhb hhv
      go_loopw [13] (fun i wr => ∃ (k : Nat) (h : HV), k ≤ nE ∧ i = .int .i64 (k : Nat) ∧ Mid w wr hb R (S.take 32) U (ded (es.take k)) h) (fun i _ => nE - (intOf i).toNat)
      case atStart => exact ⟨0, h0, Nat.zero_le _, rfl, M0⟩
      case round =>
        obtain ⟨k, h, hk, rfl, M⟩ := hrel
        by_cases hlt : k < nE
        · obtain ⟨b, off, rfl, hbl, x, hx, c1, c2⟩ := (HE.out.below M.low).at_ hlt
          have hmem : x ∈ es := List.mem_of_getElem? hx
          obtain ⟨hx0, hx1⟩ := HE.out.fits x hmem
          have hd1 := HD.out x hmem
          have HX : Hid (es[k]? = some x) := hx
          have HSx : Hid (ASrc wr x.ob x.d.length 1 x.c (cu8 x.d)) := (HE.out.data x hmem).below M.low
          have HM : Hid (Mid w wr hb R (S.take 32) U (ded (es.take k)) h) := M
          have hsz := M.low.size
          have hbs : hb < wr.heap.size := M.own.blk.lt
          clear M hx hmem
          obtain ⟨ty, ob, c, d⟩ := x
          simp only at *
          generalize hdl : d.length = dl at *
          go_wp2_with fail
          generalize hWe : wr.alloc (.cells #[.int .u16 ty, .slice ob dl c] 43) = We
          have HG : Hid (Grew wr We none none) := by rw [← hWe]; exact Grew.alloc _ _ _
          have HM2 : Hid (Mid w We hb R (S.take 32) U (ded (es.take k)) h) := HM.out.grew HG.out
          have hcE0 : We.cell? ⟨wr.heap.size, 0, none⟩ = some (.int .u16 ty) := by rw [← hWe]; exact cell_new0 wr 43 _ _
          have hcE1 : We.cell? ⟨wr.heap.size, 1, none⟩ = some (.slice ob dl c) := by rw [← hWe]; exact cell_new1 wr 43 _ _
          have hWs : wr.heap.size + 1 = We.heap.size := by rw [← hWe]; simp
          have hmE : h.mE ≤ 256 := by
            have h1 := HM.out.own.hello.e.length
            have h2 := congrArg List.length HM.out.ks
            have h3 := (ded_len (es.take k)).2
            simp at h2 h3
            omega
          have HSe : Hid (ASrc We ob dl 1 c (cu8 d)) := HSx.out.grew HG.out
          have hEb : w.heap.size ≤ wr.heap.size := hsz
          clear hWe c1 c2 HSx HM HG
          generalize wr.heap.size = eb at *
          clear hbl
          go_loopw [15, 16] (fun dup j wq => ∃ (i : Nat), i ≤ h.mE ∧ j = .int .i64 (i : Nat) ∧ dup = .bool (((h.es.take i).map EX.ty).contains ty) ∧ Grew We wq none none) (fun _ j _ => h.mE - (intOf j).toNat)
          case atStart => exact ⟨0, Nat.zero_le _, rfl, rfl, Grew.refl _ _⟩
          case round =>
            obtain ⟨i, hi, rfl, rfl, hgq⟩ := hrel
            have H1 := (HM2.out.grew hgq).own.hello
            have c3 := H1.c3
            have ce := hgq.keep hcE0
            have HGq : Hid (Grew We wr none none) := hgq
            have hsq := hgq.size
            by_cases hli : i < h.mE
            · obtain ⟨b2, off2, hoE, hb2, y, hy, cy0, cy1⟩ := H1.e.at_ hli
              rw [hoE] at c3
              obtain ⟨hy0, hy1⟩ := H1.e.fits y (List.mem_of_getElem? hy)
              have HY : Hid (h.es[i]? = some y) := hy
              obtain ⟨ty2, ob2, c2', d2⟩ := y
              simp only at *
              have HT : Hid (((h.es.take (i + 1)).map EX.ty).contains ty = (((h.es.take i).map EX.ty).contains ty || decide (ty = ty2))) := by
                show _ = _
                rw [List.take_add_one, HY.out]
                simp
              generalize ((h.es.take i).map EX.ty).contains ty = dup at *
              clear hy H1 hgq cy1 hoE
              by_cases hty : ty2 = ty
              · subst hty
                go_wp2_with fail
                go_region
                have HGd : Hid (Grew We wr.drew none none) := HGq.out.trans (grew_drew _ _)
                generalize wr.drew = wd at *
                clear HGq c3 ce cy0
                go_wp2
                go_roundw
                case rel => exact ⟨i + 1, by omega, by go_num, by rw [HT.out]; simp, HGd.out⟩
                case measure => simp [intOf]; omega
              · go_wp2_with fail
                go_region
                have HGd : Hid (Grew We wr.drew none none) := HGq.out.trans (grew_drew _ _)
                have hty' : decide (ty = ty2) = false := decide_eq_false (fun e => hty e.symm)
                generalize wr.drew = wd at *
                clear HGq c3 ce cy0
                go_wp2
                go_roundw
                case rel => exact ⟨i + 1, by omega, by go_num, by rw [HT.out, hty']; simp, HGd.out⟩
                case measure => simp [intOf]; omega
            · have hin : i = h.mE := by omega
              subst hin
              have hel := H1.e.length
              have HDup : Hid (((h.es.take h.mE).map EX.ty).contains ty = ((ded (es.take k)).map EX.ty).contains ty) := by
                show _ = _
                rw [List.take_of_length_le (l := h.es) (by omega)]
                have hk2 := congrArg (List.map Prod.fst) HM2.out.ks
                simp only [List.map_map] at hk2
                have e1 : (Prod.fst ∘ key) = EX.ty := rfl
                rw [e1] at hk2
                rw [hk2]
              generalize hdup : ((h.es.take h.mE).map EX.ty).contains ty = dup at *
              cases dup
              · have HM3 : Hid (Mid w wr hb R (S.take 32) U (ded (es.take k)) h) := HM2.out.grew HGq.out
                have hc3 : wr.cell? ⟨hb, 3, none⟩ = some (.slice h.oE h.mE h.cE) := c3
                have hq0 := HGq.out.keep hcE0
                have hq1 := HGq.out.keep hcE1
                have HSq : Hid (ASrc wr ob dl 1 c (cu8 d)) := HSe.out.grew HGq.out
                have hlwr : hb < wr.heap.size := HM3.out.own.blk.lt
                have hlwe : eb < wr.heap.size := by omega
                have hsw := HM3.out.low.size
                clear c3 ce hcE0 hcE1 H1 hgq
                go_upto_region 19 with fail
                go_region_law (first
                  | (refine app8_step0 (by rfl) (.const (.slice none 0 0)) (.tmp 77) (by rfl) w.heap.size (by rfl) ob dl c d (by rfl) (HSq.out.grew (grew_drew _ none)) (by omega) (by show w.heap.size ≤ wr.heap.size; omega) ?_; intro oD cD wA hownD hgA; have hA0 := hgA.keep hq0; have hA1 := hgA.keep hq1; have hc3A := hgA.keep hc3; have hsA := hgA.size; have hbA : hb < wA.heap.size := Nat.lt_of_lt_of_le (by show hb < wr.heap.size; omega) hsA)
                  | (refine appE_step (by rfl) (.tmp 73) (.tmp 80) (by rfl) w.heap.size h.oE h.mE h.cE h.es (by rfl) (HM3.out.ext hgA rfl _) (some ⟨wA.heap.size, 0, none⟩) 1 ⟨ty, oD, cD, d⟩ (by rfl) (src_ext wA hdl) (by omega) (HM3.out.room hgA _) ?_; intro oE2 cE2 wB hownB hgB; have B3 := HM3.out.blkB hgA hgB; have hB3 := B3.cell3; have fB3 := B3.frozen 3; clear B3))
                all_goals
                  have HM' := HM3.out.pushD hdl HX.out HDup.out.symm ⟨hx0, hx1⟩ hgA hownD hgB hownB
                  generalize h.push oE2 cE2 ⟨ty, oD, cD, d⟩ = h' at *
                  generalize wB.setCell ⟨hb, 3, none⟩ (.slice oE2 (h.mE + 1) cE2) = wX at *
                  clear HM2 HM3 hc3 hq0 hq1 hA0 hA1 hc3A hgA hownD hgB hownB hB3 fB3
                  have HM4 : Hid (Mid w wX hb R (S.take 32) U (ded (es.take (k + 1))) h') := HM'
                  clear HM'
                  go_wp2
                  go_roundw
                  case rel => exact ⟨k + 1, h', by omega, by go_num, HM4.out⟩
                  case measure => simp [intOf]; omega
              · have hst : ded (es.take (k + 1)) = ded (es.take k) := by
                  rw [List.take_add_one, HX.out, ded_snoc]
                  unfold dstep
                  rw [if_pos HDup.out.symm]
                have HM3 : Hid (Mid w wr hb R (S.take 32) U (ded (es.take (k + 1))) h) := by
                  have hm := HM2.out.grew HGq.out
                  rw [hst]
                  exact hm
                clear hst
                go_wp2_with fail
                go_roundw
                case rel => exact ⟨k + 1, h, by omega, by go_num, HM3.out⟩
                case measure => simp [intOf]; omega
        · have hkn : k = nE := by omega
          subst hkn
          go_wp2
          go_ret
          refine ⟨hb, h, rfl, ?_⟩
          rw [List.take_of_length_le (l := es) (by rw [HE.out.length]; omega)] at M
          exact M
end Go.Proofs.YbulkjucFmt

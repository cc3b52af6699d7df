import Derived.Test.YbulkjucFmtBuildD
import Derived.Test.YbulkjucFmtEq
import Derived.BigQuiet
import Derived.Deep.QuietTactic
namespace Go.Proofs.YbulkjucFmt
open Go.RowKit
attribute [local go_sem ↓] Go.wp_at_zero Go.wp_at_succ

/-- An extension of the one hello, and its fellow of the other. -/
theorem same_at {h h' : HV} {k : Nat} {x x' : EX} (hs : HSame h h') (hx : h.es[k]? = some x) (hx' : h'.es[k]? = some x') : x'.ty = x.ty ∧ x'.d = x.d := by
  have e := congrArg (fun l => l[k]?) hs.ks
  simp only [List.getElem?_map, hx, hx', Option.map_some, Option.some.injEq] at e
  exact ⟨congrArg Prod.fst e, congrArg Prod.snd e⟩

/-- The hello that was built, and the one that was parsed, side by side. -/
structure Two (w wX : World) (hb pb : Nat) (h h' : HV) : Prop where
  a : HelloAt wX hb h
  b : HelloAt wX pb h'
  s : HSame h h'
  l : Below w.heap.size w wX
section
variable {w wX : World} {hb pb : Nat} {h h' : HV}
theorem Two.drewN (T : Two w wX hb pb h h') (n : Nat) : Two w (wX.drewN n) hb pb h h' := ⟨T.a.grew (grew_drewN _ _), T.b.grew (grew_drewN _ _), T.s, T.l.trans ⟨rfl, rfl, rfl, Nat.le_refl _, fun _ _ => rfl⟩⟩
theorem Two.p1 (T : Two w wX hb pb h h') : wX.cell? ⟨pb, 1, none⟩ = some (.slice h'.oS h.mS h'.cS) := by rw [← T.s.ms]; exact T.b.c1
theorem Two.p2 (T : Two w wX hb pb h h') : wX.cell? ⟨pb, 2, none⟩ = some (.slice h'.oU h.mU h'.cU) := by rw [← T.s.mu]; exact T.b.c2
theorem Two.p3 (T : Two w wX hb pb h h') : wX.cell? ⟨pb, 3, none⟩ = some (.slice h'.oE h.mE h'.cE) := by rw [← T.s.me]; exact T.b.c3
theorem Two.r (T : Two w wX hb pb h h') : Src wX h'.oR 32 1 h'.cR (cu8 h.R) := by rw [← T.s.r]; exact T.b.r
theorem Two.ss (T : Two w wX hb pb h h') : Src wX h'.oS h.mS 1 h'.cS (cu8 h.S) := by rw [← T.s.s, ← T.s.ms]; exact T.b.s
theorem Two.u (T : Two w wX hb pb h h') : Src wX h'.oU h.mU 1 h'.cU (cu16 h.U) := by rw [← T.s.u, ← T.s.mu]; exact T.b.u
theorem Two.e (T : Two w wX hb pb h h') : ESrc wX h'.oE h.mE h'.cE h'.es := by rw [← T.s.me]; exact T.b.e
end

set_option maxRecDepth 100000 in
set_option maxHeartbeats 1600000 in
theorem round_any (R S U : List Int) (nS cS nU cU nE cE : Nat) (oS oU oE : Option Addr) (es : List EX) (w : World) (hR : R.length = 32) (hS : Src w oS nS 1 cS (cu8 S)) (hSc : nS ≤ cS) (hSm : nS ≤ maxLen) (hU : Src w oU nU 1 cU (cu16 U)) (hUr : ∀ x ∈ U, 0 ≤ x ∧ x < 65536) (hE : AESrc w oE nE cE es) :
    Calls Ybaf.prog 4 #[.agg (cu8 R).toArray, .slice oS nS cS, .slice oU nU cU, .slice oE nE cE] w fun e w' => e = .returned (.bool true) ∧ Below w.heap.size w w' := by
  have HR : Hid (R.length = 32) := hR
  have HS : Hid (Src w oS nS 1 cS (cu8 S)) := hS
  have HU : Hid (Src w oU nU 1 cU (cu16 U)) := hU
  have HUr : Hid (∀ x ∈ U, 0 ≤ x ∧ x < 65536) := hUr
  have HE : Hid (AESrc w oE nE cE es) := hE
  clear hR hS hU hUr hE
  go_enter Ybaf.func4, Ybaf.ntmps4
  go_wp2_with fail
  generalize hW0 : w.alloc (.cells (cu8 R).toArray 22) = w0
  have HG0 : Hid (Grew w w0 none none) := by rw [← hW0]; exact Grew.alloc _ _ _
  have hblk : Hid (w0.heap[w.heap.size]? = some (.cells (cu8 R).toArray 22 (0, 0))) := by rw [← hW0]; exact heap_alloc_new w _
  have hs0 := HG0.out.size
  clear hW0
  refine (fits_any oU oE nU cU nE cE es w0 (HE.out.grew HG0.out)).mono ?_
  rintro e w' ⟨rfl, rfl | ⟨rfl, HF0⟩⟩
  · go_wp2
    go_ret
    exact ⟨rfl, HG0.out.below (Nat.le_refl _) (by simp [blk])⟩
  have HF : Hid (Fit nU nE es) := HF0
  clear HF0
  go_wp2_with (first
    | (refine wpList_load_mid rfl 22 (.tmp 4) rfl w.heap.size 0 (by rfl) (cu8 R) _ (fun j v hj => by rw [← add_plain]; exact World.news_of_block hblk.out j v (by simpa using hj)) Ybaf.underlying22 rfl (by rw [cu8_length, HR.out]; kernel_rfl) ?_))
  refine (build_ded R S U nS cS nU cU nE cE oS oU oE es w' HR.out (HS.out.grew HG0.out (by simp [blk])) hSc hSm (HU.out.grew HG0.out (by simp [blk])) (HE.out.grew HG0.out) HF.out.1 HF.out.2.1 HF.out.2.2.1).mono ?_
  rintro e wB ⟨hb, h, rfl, M⟩
  have HGd : Hid (HGood h) := M.good HF.out HR.out (by have := HU.out.1; rw [cu16_length] at this; omega) HUr.out HE.out.length
  have HHB : Hid (HelloAt wB hb h) := M.own.hello
  have HLB : Hid (Below w.heap.size w wB) := (HG0.out.below (Nat.le_refl _) (by simp [blk])).trans (M.low.mono hs0)
  have hsB := HLB.out.size
  clear M HR HS HU HUr HE HF HG0 hblk
  go_wp2_with fail
  refine (marshal hb h wB HHB.out HGd.out.fits).mono ?_
  rintro e wM ⟨oG, cG, rfl, hownG, hgG⟩
  have HHM : Hid (HelloAt wM hb h) := HHB.out.grew hgG
  have HLM : Hid (Below w.heap.size w wM) := HLB.out.trans (hgG.below hsB (by simp [blk]))
  obtain ⟨g, rfl, hc1, hc2, k0, k1, k2, k3, hsrc⟩ := msg_open hownG
  have HSG : Hid (Src wM (some ⟨g, 4, none⟩) (bodyLen h) 1 (cG - 4) (cu8 (body h))) := hsrc
  have hsM := HLM.out.size
  have hmS := HGd.out.fits.s
  have hmU := HGd.out.fits.u
  have hmE := HGd.out.fits.e
  have hall := HGd.out.fits.all
  have hBb : bodyLen h ≤ 100000 := by unfold bodyLen; omega
  have hBp : 0 < bodyLen h := by unfold bodyLen; omega
  clear hownG hgG HHB HLB hs0 hsB hsrc hall
  generalize hBL : bodyLen h = BL at *
  have HBL : Hid (bodyLen h = BL) := hBL
  clear hBL
  generalize ha : (BL : Int) / 65536 = a at *
  generalize hb' : (BL : Int) / 256 % 256 = b at *
  generalize hc' : (BL : Int) % 256 = c at *
  have a0 : 0 ≤ a := by omega
  have a1 : a < 256 := by omega
  have b0 : 0 ≤ b := by omega
  have b1 : b < 256 := by omega
  have c0 : 0 ≤ c := by omega
  have c1 : c < 256 := by omega
  have HL : Hid (a * 65536 + b * 256 + c = (BL : Int)) := by show _ = _; omega
  have e1 := or64a a b a0 a1 b0 b1
  have e2 := or64b (a * 256 + b) c (by omega) (by omega) c0 c1
  rw [show (a * 256 + b) * 256 = a * 65536 + b * 256 from by omega] at e2
  clear ha hb' hc'
  go_upto_region 7 with fail
  go_quiet (fail)
  rw [HL.out]
  generalize hWd : wM.drewN nq = wD
  have HHD : Hid (HelloAt wD hb h) := by rw [← hWd]; exact HHM.out.grew (grew_drewN wM nq)
  have HLD : Hid (Below w.heap.size w wD) := by rw [← hWd]; exact HLM.out.trans ⟨rfl, rfl, rfl, Nat.le_refl _, fun _ _ => rfl⟩
  have HSD : Hid (Src wD (some ⟨g, 4, none⟩) BL 1 (cG - 4) (cu8 (body h))) := by rw [← hWd]; exact HSG.out.drewN nq
  have hsD := HLD.out.size
  clear hWd HHM HLM HSG hsM k0 k1 k2 k3 e1 e2 HL a0 a1 b0 b1 c0 c1
  go_wp2_with fail
  have HPP := parse9 g 4 (cG - 4) h wD (by rw [HBL.out]; exact HSD.out) (by rw [HBL.out]; omega) (by omega) HGd.out
  rw [HBL.out] at HPP
  refine HPP.mono ?_
  clear HPP
  rintro e wP ⟨pb, h', rfl, hAt, hSame, hbel⟩
  have HT : Hid (Two w wP hb pb h h') := ⟨HHD.out.below hbel, hAt, hSame, HLD.out.trans (hbel.mono hsD)⟩
  clear hAt hSame hbel HHD HLD HSD hsD HBL HGd hc1 hc2
  have hp0 := HT.out.b.c0
  have hp1 := HT.out.p1
  have hq0 := HT.out.a.c0
  have hq1 := HT.out.a.c1
  go_upto_region 13 with fail
  go_quiet (first
    | (go_at_call 8; first
      | exact Calls.quiet_of_same (equal_any h'.oR h.oR 32 h'.cR h.cR h.R _ (HT.out.r.drewN _) (HT.out.a.r.drewN _))
      | exact Calls.quiet_of_same (equal_any h'.oS h.oS h.mS h'.cS h.cS h.S _ (HT.out.ss.drewN _) (HT.out.a.s.drewN _))))
  have HT2 : Hid (Two w (wP.drewN nq) hb pb h h') := HT.out.drewN nq
  generalize wP.drewN nq = wQ at *
  clear HT hp0 hp1 hq0 hq1
  have hp2 := HT2.out.p2
  have hp3 := HT2.out.p3
  have hq2 := HT2.out.a.c2
  have hq3 := HT2.out.a.c3
  go_upto_region 15 with fail
  go_quiet (fail)
  have HT3 : Hid (Two w (wQ.drewN nq) hb pb h h') := HT2.out.drewN nq
  generalize wQ.drewN nq = wT at *
  clear HT2 hp2 hp3 hq2 hq3
  go_wp2_with fail
  go_loopw [14] (fun i wr => ∃ (k : Nat), k ≤ h.mU ∧ i = .int .i64 (k : Nat) ∧ Two w wr hb pb h h') (fun i _ => h.mU - (intOf i).toNat)
  case atStart => exact ⟨0, Nat.zero_le _, rfl, HT3.out⟩
  case round =>
    obtain ⟨k, hk, rfl, T⟩ := hrel
    have HT4 : Hid (Two w wr hb pb h h') := T
    have hq2 := T.a.c2
    have hp2 := T.p2
    by_cases hlt : k < h.mU
    · obtain ⟨b1, o1, hoU, hb1, x, hx, cx⟩ := T.a.u.at16 hlt
      obtain ⟨b2, o2, hoU', hb2, x', hx', cx'⟩ := T.u.at16 hlt
      rw [hx] at hx'
      cases hx'
      rw [hoU] at hq2
      rw [hoU'] at hp2
      clear hx hoU hoU' T HT3
      go_wp2_with fail
      go_quiet (fail)
      have HT5 : Hid (Two w (wr.drewN nq) hb pb h h') := HT4.out.drewN nq
      generalize wr.drewN nq = wX at *
      clear HT4 hq2 hp2 cx cx'
      go_wp2
      go_roundw
      case rel => exact ⟨k + 1, by omega, by go_num, HT5.out⟩
      case measure => simp [intOf]; omega
    · clear T HT3 hp2
      go_wp2_with fail
      clear hq2
      go_loopw [15] (fun i wr => ∃ (k : Nat), k ≤ h.mE ∧ i = .int .i64 (k : Nat) ∧ Two w wr hb pb h h') (fun i _ => h.mE - (intOf i).toNat)
      case atStart => exact ⟨0, Nat.zero_le _, rfl, HT4.out⟩
      case round =>
        obtain ⟨j, hj, rfl, T⟩ := hrel
        have HT6 : Hid (Two w wr hb pb h h') := T
        have hq3 := T.a.c3
        have hp3 := T.p3
        by_cases hlt2 : j < h.mE
        · obtain ⟨b1, o1, hoE, hb1, x, hx, cx, cd⟩ := T.a.e.at_ hlt2
          obtain ⟨b2, o2, hoE', hb2, x', hx', cx', cd'⟩ := T.e.at_ hlt2
          have S1 := T.a.e.data x (List.mem_of_getElem? hx)
          have S2 := T.e.data x' (List.mem_of_getElem? hx')
          obtain ⟨es1, es2⟩ := same_at T.s hx hx'
          rw [hoE] at hq3
          rw [hoE'] at hp3
          clear hx hx' hoE hoE' T HT4
          obtain ⟨ty, ob, c5, d⟩ := x
          obtain ⟨ty', ob', c5', d'⟩ := x'
          simp only at *
          subst es1 es2
          have HS1 : Hid (Src wr ob d'.length 1 c5 (cu8 d')) := S1
          have HS2 : Hid (Src wr ob' d'.length 1 c5' (cu8 d')) := S2
          clear S1 S2
          generalize d'.length = dl at *
          go_wp2_with fail
          go_quiet (first
            | (go_at_call 8; exact Calls.quiet_of_same (equal_any ob' ob dl c5' c5 d' _ (HS2.out.drewN _) (HS1.out.drewN _))))
          have HT7 : Hid (Two w (wr.drewN nq) hb pb h h') := HT6.out.drewN nq
          generalize wr.drewN nq = wX at *
          clear HT6 hq3 hp3 cx cx' cd cd' HS1 HS2
          go_wp2
          go_roundw
          case rel => exact ⟨j + 1, by omega, by go_num, HT7.out⟩
          case measure => simp [intOf]; omega
        · clear T HT4 hp3
          go_wp2
          go_ret
          exact ⟨rfl, HT6.out.l⟩
end Go.Proofs.YbulkjucFmt

import Derived.Test.YbulkjucFmtLastR
import Derived.Test.YbulkjucFmtFits
namespace Go.Proofs.YbulkjucFmt
open Go.RowKit

/-- What is asked of a hello whose body is parsed. -/
structure HGood (h : HV) : Prop where
  fits : HFits h
  r : h.R.length = 32
  s : h.S.length = h.mS
  u : h.U.length = h.mU
  e : h.es.length = h.mE
  ty : ∀ x ∈ h.es, 0 ≤ x.ty ∧ x.ty < 65536
  nd : (h.es.map EX.ty).Nodup
/-- The two hellos hold the same. -/
structure HSame (h h' : HV) : Prop where
  r : h'.R = h.R
  s : h'.S = h.S
  ms : h'.mS = h.mS
  u : h'.U = h.U
  mu : h'.mU = h.mU
  me : h'.mE = h.mE
  ks : h'.es.map key = h.es.map key
def rest4 (h : HV) : List Int := [((encE h.es).length : Int) / 256, ((encE h.es).length : Int) % 256] ++ (encE h.es ++ [])
def rest3 (h : HV) : List Int := [((1 : Nat) : Int)] ++ ([0] ++ rest4 h)
def rest2 (h : HV) : List Int := [((2 * h.mU : Nat) : Int) / 256, ((2 * h.mU : Nat) : Int) % 256] ++ (enc16 h.U ++ rest3 h)
theorem body_rest (h : HV) : body h = [3, 3] ++ (h.R ++ ([(h.mS : Int)] ++ (h.S ++ rest2 h))) := by
  simp [body, body3, body2, body1, rest2, rest3, rest4]

theorem blk4_new (w : World) (hb : Nat) (h : hb = w.heap.size) : Blk4 (w.alloc (.cells #[nilV, nilV, nilV, nilV] 32)) hb nilV nilV nilV nilV := by
  subst h; exact heap_alloc_new w _
theorem Blk4.set0 {w : World} {hb : Nat} {a b c d : Value} (h : Blk4 w hb a b c d) (v : Value) : Blk4 (w.setCell ⟨hb, 0, none⟩ v) hb v b c d := heap_setCell_same w hb 0 _ _ v h
theorem below_hid {B : Nat} {w w' : World} (h : Below B w w') : Hid (Below B w w') := h
theorem RdAt.box {w : World} {mb off m c : Nat} {xs : List Int} (hs : Src w (some ⟨mb, off, none⟩) m 1 c (cu8 xs)) (hm : m ≤ c) (hc : c ≤ maxLen) (o : Obj) :
    RdAt ((w.alloc (.cells #[.slice (some ⟨mb, off, none⟩) m c] 50)).alloc o) w.heap.size mb m xs :=
  (RdAt.move hm hc hs _ rfl).grew (Grew.alloc _ _ none) (by simp [blk]) (by simp [blk])

set_option maxRecDepth 100000 in
set_option maxHeartbeats 1600000 in
theorem parseR (mb off c : Nat) (h : HV) (w : World) (hs : Src w (some ⟨mb, off, none⟩) (bodyLen h) 1 c (cu8 (body h))) (hc : bodyLen h ≤ c) (hcm : c ≤ maxLen) (G : HGood h) :
    Calls Ybaf.prog 15 #[.slice (some ⟨mb, off, none⟩) (bodyLen h) c] w fun e w' => ∃ pb h', e = .returned (.tuple #[.pointer (some ⟨pb, 0, none⟩), .nilIface]) ∧ HelloAt w' pb h' ∧ HSame h h' ∧ Below w.heap.size w w' := by
  have HS : Hid (Src w (some ⟨mb, off, none⟩) (bodyLen h) 1 c (cu8 (body h))) := hs
  have HG : Hid (HGood h) := G
  have hmb : mb < w.heap.size := hs.lt mb rfl
  have hmS := G.fits.s
  have hmU := G.fits.u
  have hmE := G.fits.e
  have hEL := G.fits.all
  clear hs G
  go_enter Ybaf.func15, Ybaf.ntmps15
  go_wp2_with fail
  generalize hW0 : ((w.alloc (Obj.cells #[Value.slice (some { block := mb, off := off }) (bodyLen h) c] 50)).alloc (Obj.cells #[Value.slice none 0 0, Value.slice none 0 0, Value.slice none 0 0, Value.slice none 0 0] 32)) = W0
  have L0 : Hid (Below w.heap.size w W0) := below_hid (by rw [← hW0]; go_grown)
  have B0 : Hid (Blk4 W0 (w.heap.size + 1) nilV nilV nilV nilV) := by rw [← hW0]; exact blk4_new _ _ (by simp)
  have R0 : Hid (RdAt W0 w.heap.size mb (bodyLen h) ([3, 3] ++ (h.R ++ ([(h.mS : Int)] ++ (h.S ++ rest2 h))))) := by
    rw [← hW0, ← body_rest]
    exact RdAt.box HS.out hc hcm _
  clear hW0
  obtain ⟨rb, hrb⟩ : ∃ rb, rb = w.heap.size := ⟨_, rfl⟩
  obtain ⟨pb, hpb⟩ : ∃ pb, pb = w.heap.size + 1 := ⟨_, rfl⟩
  rw [← hpb] at B0 ⊢
  rw [← hrb] at R0 ⊢
  have hle : w.heap.size ≤ rb := by omega
  have hrp : rb < pb := by omega
  have hmr : mb < rb := by omega
  clear hrb hpb
  refine (startR rb mb (bodyLen h) h.mS h.R h.S (rest2 h) W0 R0.out HG.out.r HG.out.s hmS).mono ?_
  rintro e w1 ⟨o1, o2, rfl, sR, sS, rd1, g1⟩
  have B1 : Hid (Blk4 w1 pb nilV nilV nilV nilV) := B0.out.grew g1 (fun e => by have : rb = pb := Option.some.inj e; omega)
  have SR : Hid (Src w1 (some ⟨mb, o1, none⟩) 32 1 32 (cu8 h.R)) := sR
  have SS : Hid (Src w1 (some ⟨mb, o2, none⟩) h.mS 1 h.mS (cu8 h.S)) := sS
  have R1 : Hid (RdAt w1 rb mb (bodyLen h - 2 - 32 - 1 - h.mS) (rest2 h)) := rd1
  have L1 : Hid (Below w.heap.size w w1) := L0.out.trans (g1.below L0.out.size fun k hk => by have : rb = k := Option.some.inj hk; omega)
  have k0 := B1.out.cell0
  have k1 := B1.out.cell1
  have f0 := B1.out.frozen 0
  have f1 := B1.out.frozen 1
  clear B0 R0 L0 sR sS rd1 g1
  generalize bodyLen h - 2 - 32 - 1 - h.mS = m1 at *
  go_wp2_with fail
  have G1 : Grew w1 ((w1.setCell ⟨pb, 0, none⟩ (.slice (some ⟨mb, o1, none⟩) 32 32)).setCell ⟨pb, 1, none⟩ (.slice (some ⟨mb, o2, none⟩) h.mS h.mS)) (some ⟨pb, 0, none⟩) (some ⟨pb, 0, none⟩) := (grew_set _ _ _ _).trans (grew_set _ _ _ _)
  have B1' : Hid (Blk4 ((w1.setCell ⟨pb, 0, none⟩ (.slice (some ⟨mb, o1, none⟩) 32 32)).setCell ⟨pb, 1, none⟩ (.slice (some ⟨mb, o2, none⟩) h.mS h.mS)) pb (.slice (some ⟨mb, o1, none⟩) 32 32) (.slice (some ⟨mb, o2, none⟩) h.mS h.mS) nilV nilV) := (B1.out.set0 _).set1 _
  generalize ((w1.setCell ⟨pb, 0, none⟩ (.slice (some ⟨mb, o1, none⟩) 32 32)).setCell ⟨pb, 1, none⟩ (.slice (some ⟨mb, o2, none⟩) h.mS h.mS)) = X1 at *
  have L1' : Hid (Below w.heap.size w1 X1) := below_hid (G1.below L1.out.size fun k hk => by have : pb = k := Option.some.inj hk; omega)
  have R1' : Hid (RdAt X1 rb mb m1 (rest2 h)) := R1.out.grew G1 (fun e => by have : pb = rb := Option.some.inj e; omega) (fun e => by have : pb = mb := Option.some.inj e; omega)
  have LX1 : Hid (Below w.heap.size w X1) := below_hid (L1.out.trans L1'.out)
  clear k0 k1 f0 f1 G1 B1 R1
  refine (vecR2 rb mb m1 (2 * h.mU) (enc16 h.U) (rest3 h) X1 R1'.out (by rw [enc16_length, HG.out.u]) (by omega)).mono ?_
  rintro e w2 ⟨o3, rfl, sU, rd2, g2⟩
  have L2 : Hid (Below w.heap.size X1 w2) := below_hid (g2.below LX1.out.size fun k hk => by have : rb = k := Option.some.inj hk; omega)
  have B2 : Hid (Blk4 w2 pb (.slice (some ⟨mb, o1, none⟩) 32 32) (.slice (some ⟨mb, o2, none⟩) h.mS h.mS) nilV nilV) := B1'.out.grew g2 (fun e => by have : rb = pb := Option.some.inj e; omega)
  have SU : Hid (Src w2 (some ⟨mb, o3, none⟩) (2 * h.mU) 1 (2 * h.mU) (cu8 (enc16 h.U))) := sU
  have R2 : Hid (RdAt w2 rb mb (m1 - 2 - 2 * h.mU) (rest3 h)) := rd2
  have LX2 : Hid (Below w.heap.size w w2) := below_hid (LX1.out.trans L2.out)
  clear sU rd2 g2 B1' R1'
  generalize m1 - 2 - 2 * h.mU = m2 at *
  go_wp2_with fail
  refine (u16R mb o3 h.mU (2 * h.mU) h.U w2 SU.out HG.out.u HG.out.fits.ur hmU).mono ?_
  rintro e w3 ⟨rfl, ownU, b3⟩
  have OU : Hid (w3.ownsRow w2.heap.size 34 1 (.slice (some ⟨w2.heap.size, 0, none⟩) h.mU h.mU) h.mU (cu16 h.U)) := ownU
  have B3' : Hid (Below w2.heap.size w2 w3) := b3
  have s2 := LX2.out.size
  have hp2 : pb < w2.heap.size := B2.out.lt
  have hr2 : rb < w2.heap.size := by omega
  have B3 : Hid (Blk4 w3 pb (.slice (some ⟨mb, o1, none⟩) 32 32) (.slice (some ⟨mb, o2, none⟩) h.mS h.mS) nilV nilV) := B2.out.grew (grew_of_below b3 none) (by simp [blk])
  have R3 : Hid (RdAt w3 rb mb m2 (rest3 h)) := R2.out.grew (grew_of_below b3 none) (by simp [blk]) (by simp [blk])
  have k2 := B3.out.cell2
  have f2 := B3.out.frozen 2
  have s3 := b3.size
  generalize hub : w2.heap.size = ub at *
  clear ownU b3 B2 R2 SU
  go_wp2_with fail
  have G3 : Grew w3 (w3.setCell ⟨pb, 2, none⟩ (.slice (some ⟨ub, 0, none⟩) h.mU h.mU)) (some ⟨pb, 0, none⟩) (some ⟨pb, 0, none⟩) := grew_set _ _ _ _
  have B3x : Hid (Blk4 (w3.setCell ⟨pb, 2, none⟩ (.slice (some ⟨ub, 0, none⟩) h.mU h.mU)) pb (.slice (some ⟨mb, o1, none⟩) 32 32) (.slice (some ⟨mb, o2, none⟩) h.mS h.mS) (.slice (some ⟨ub, 0, none⟩) h.mU h.mU) nilV) := B3.out.set2 _
  generalize (w3.setCell ⟨pb, 2, none⟩ (.slice (some ⟨ub, 0, none⟩) h.mU h.mU)) = X3 at *
  have R3x : Hid (RdAt X3 rb mb m2 (rest3 h)) := R3.out.grew G3 (fun e => by have : pb = rb := Option.some.inj e; omega) (fun e => by have : pb = mb := Option.some.inj e; omega)
  have OUx : Hid (X3.ownsRow ub 34 1 (.slice (some ⟨ub, 0, none⟩) h.mU h.mU) h.mU (cu16 h.U)) := owns_kept OU.out G3 fun k hk e => by
    have h1 : ub = k := Option.some.inj hk
    have h2 : pb = k := Option.some.inj e
    omega
  have L3x : Hid (Below w.heap.size w2 X3) := below_hid ((B3'.out.mono s2).trans (G3.below (by omega) fun k hk => by have : pb = k := Option.some.inj hk; omega))
  have LX3 : Hid (Below w.heap.size w X3) := below_hid (LX2.out.trans L3x.out)
  have sx3 := G3.size
  clear k2 f2 G3 B3 R3 OU B3'
  go_wp2_with fail
  refine (vecR1 rb mb m2 1 [0] (rest4 h) X3 R3x.out rfl (by omega)).mono ?_
  rintro e w4 ⟨o4, rfl, sC, rd4, g4⟩
  have L4 : Hid (Below w.heap.size X3 w4) := below_hid (g4.below LX3.out.size fun k hk => by have : rb = k := Option.some.inj hk; omega)
  have B4 : Hid (Blk4 w4 pb (.slice (some ⟨mb, o1, none⟩) 32 32) (.slice (some ⟨mb, o2, none⟩) h.mS h.mS) (.slice (some ⟨ub, 0, none⟩) h.mU h.mU) nilV) := B3x.out.grew g4 (fun e => by have : rb = pb := Option.some.inj e; omega)
  have O4 : Hid (w4.ownsRow ub 34 1 (.slice (some ⟨ub, 0, none⟩) h.mU h.mU) h.mU (cu16 h.U)) := owns_kept OUx.out g4 fun k hk e => by
    have h1 : ub = k := Option.some.inj hk
    have h2 : rb = k := Option.some.inj e
    omega
  have SC : Hid (Src w4 (some ⟨mb, o4, none⟩) 1 1 1 (cu8 [0])) := sC
  have R4 : Hid (RdAt w4 rb mb (m2 - 1 - 1) (rest4 h)) := rd4
  have s4 := g4.size
  clear sC rd4 g4 B3x R3x OUx
  generalize m2 - 1 - 1 = m3 at *
  go_wp2_with fail
  refine (equal_true (some ⟨mb, o4, none⟩) (some ⟨w4.heap.size, 0, none⟩) 1 1 1 [0] _ (by omega) (SC.out.grew (Grew.alloc _ _ none) (by simp [blk])) (src_new w4 5 [.int .u8 0] 1 1 1 rfl)).mono ?_
  rintro e w5 ⟨rfl, hw5⟩
  have G5 : Grew w4 w5 none none := by rw [hw5]; exact Grew.alloc _ _ none
  have L5 : Hid (Below w.heap.size w4 w5) := below_hid (G5.below (by omega) (by simp [blk]))
  have B5 : Hid (Blk4 w5 pb (.slice (some ⟨mb, o1, none⟩) 32 32) (.slice (some ⟨mb, o2, none⟩) h.mS h.mS) (.slice (some ⟨ub, 0, none⟩) h.mU h.mU) nilV) := B4.out.grew G5 (by simp [blk])
  have O5 : Hid (w5.ownsRow ub 34 1 (.slice (some ⟨ub, 0, none⟩) h.mU h.mU) h.mU (cu16 h.U)) := owns_kept O4.out G5 (by simp [blk])
  have R5 : Hid (RdAt w5 rb mb m3 (rest4 h)) := R4.out.grew G5 (by simp [blk]) (by simp [blk])
  have s5 := G5.size
  clear hw5 G5 B4 O4 R4 SC
  go_wp2_with fail
  refine (lastR rb mb m3 (encE h.es).length h.es w5 R5.out rfl hEL HG.out.ty HG.out.fits.d (by rw [HG.out.e]; exact hmE) HG.out.nd).mono ?_
  rintro e w7 ⟨w6, oE, cE, es', rfl, g6, b7, ownE, ks, dt⟩
  have b6 : Below w.heap.size w5 w6 := g6.below (by omega) fun k hk => by have : rb = k := Option.some.inj hk; omega
  have s6 := g6.size
  have s7 := b7.size
  have b67 : Below w.heap.size w6 w7 := b7.mono (by omega)
  have B7 : Hid (Blk4 w7 pb (.slice (some ⟨mb, o1, none⟩) 32 32) (.slice (some ⟨mb, o2, none⟩) h.mS h.mS) (.slice (some ⟨ub, 0, none⟩) h.mU h.mU) nilV) := (B5.out.grew g6 (fun e => by have : rb = pb := Option.some.inj e; omega)).grew (grew_of_below b7 none) (by simp [blk])
  have O7 : Hid (w7.ownsRow ub 34 1 (.slice (some ⟨ub, 0, none⟩) h.mU h.mU) h.mU (cu16 h.U)) := owns_kept (owns_kept O5.out g6 fun k hk e => by
    have h1 : ub = k := Option.some.inj hk
    have h2 : rb = k := Option.some.inj e
    omega) (grew_of_below b7 none) (by simp [blk])
  have OE : Hid (w7.ownsRow w6.heap.size 36 2 (.slice oE h.es.length cE) h.es.length (ecells es')) := ownE
  have KS : Hid (es'.map key = h.es.map key) := ks
  have DT : Hid (∀ x ∈ es', ∃ off, x.ob = some ⟨mb, off, none⟩ ∧ Src w7 x.ob x.d.length 1 x.c (cu8 x.d)) := dt
  have L7 : Hid (Below w.heap.size w1 w7) := below_hid ((((((L1'.out.trans L2.out).trans L3x.out).trans L4.out).trans L5.out).trans b6).trans b67)
  have k3 := B7.out.cell3
  have f3 := B7.out.frozen 3
  clear g6 b7 b6 b67 ownE ks dt B5 O5 R5
  generalize hn : h.es.length = nE at *
  go_wp2_with fail
  go_ret2
  have LX7 : Below w.heap.size w1 (w7.setCell ⟨pb, 3, none⟩ (.slice oE nE cE)) := L7.out.setCell (p := ⟨pb, 3, none⟩) (by show w.heap.size ≤ pb; omega) _
  have hlt : ∀ {o : Nat} k, blk (some (⟨mb, o, none⟩ : Addr)) = some k → k < w.heap.size := fun k hk => by have : mb = k := Option.some.inj hk; omega
  have hkeep : ∀ {o m c : Nat} {xs : List Value}, Src w7 (some ⟨mb, o, none⟩) m 1 c xs → Src (w7.setCell ⟨pb, 3, none⟩ (.slice oE nE cE)) (some ⟨mb, o, none⟩) m 1 c xs := fun hs => hs.grew (grew_set _ _ _ _) fun k hk e => by
    have h1 : mb = k := Option.some.inj hk
    have h2 : pb = k := Option.some.inj e
    omega
  refine ⟨pb, ⟨some ⟨mb, o1, none⟩, 32, h.R, some ⟨mb, o2, none⟩, h.mS, h.mS, h.S, some ⟨ub, 0, none⟩, h.mU, h.mU, h.U, oE, nE, cE, es'⟩, rfl, ⟨?_, ?_, ?_, ?_, ?_, ?_, ?_, ?_⟩, ⟨rfl, rfl, rfl, rfl, rfl, ?_, KS.out⟩, L1.out.trans LX7⟩
  · exact (B7.out.set3 _).cell0
  · exact (B7.out.set3 _).cell1
  · exact (B7.out.set3 _).cell2
  · exact (B7.out.set3 _).cell3
  · exact SR.out.below LX7 hlt
  · exact SS.out.below LX7 hlt
  · exact src_of_owns (owns_kept O7.out (grew_set _ _ _ _) fun k hk e => owns_ne4 O7.out B7.out (by decide) (hk.trans e.symm))
  · refine ⟨src_of_owns (owns_kept OE.out (grew_set _ _ _ _) fun k hk e => owns_ne4 OE.out B7.out (by decide) (hk.trans e.symm)), fun x hx => ?_, fun x hx => ?_⟩
    · obtain ⟨o, ho, hs⟩ := DT.out x hx
      rw [ho] at hs ⊢
      exact hkeep hs
    · have : key x ∈ h.es.map key := by rw [← KS.out]; exact List.mem_map.2 ⟨x, hx, rfl⟩
      obtain ⟨y, hy, e⟩ := List.mem_map.1 this
      have e1 : y.ty = x.ty := congrArg Prod.fst e
      rw [← e1]
      exact HG.out.ty y hy
  · show nE = h.mE
    rw [← hn]; exact HG.out.e
end Go.Proofs.YbulkjucFmt

import Derived.Test.YbulkjucFmtExts
import Derived.Deep.RegionHeld3
import Derived.Deep.DrawnRows
namespace Go.Proofs.YbulkjucFmt
open Go.RowKit
attribute [local go_sem ↓] Go.wp_at_zero Go.wp_at_succ

theorem keep_alloc {w : World} {a : Addr} {v : Value} (h : w.cell? a = some v) (o : Obj) : (w.alloc o).cell? a = some v := (World.grownBy_alloc w o none).cell h (by simp)
theorem keep_drew {w : World} {a : Addr} {v : Value} (h : w.cell? a = some v) : w.drew.cell? a = some v := h
theorem Grew.next {a b c : World} {o1 o2 : Option Addr} (h : Grew a b none o1) (k : Grew b c none o2) : Grew a c none o2 :=
  ⟨h.grown.trans k.grown, fun g hg => by
    rcases k.at_ g hg with h1 | h1
    · cases h1
    · exact Or.inr (Nat.le_trans h.size h1)⟩
theorem grew_drew (w : World) (oa : Option Addr) : Grew w w.drew oa oa := grew_of_below ((Below.refl _ _).drew) oa
theorem Grew.keep {w w' : World} {o2 : Option Addr} (hg : Grew w w' none o2) {a : Addr} {v : Value} (h : w.cell? a = some v) : w'.cell? a = some v := hg.grown.cell h (by simp [blk])

/-- The values in a hello's four fields, and what lies behind them. -/
structure HV where
  oR : Option Addr
  cR : Nat
  R : List Int
  oS : Option Addr
  mS : Nat
  cS : Nat
  S : List Int
  oU : Option Addr
  mU : Nat
  cU : Nat
  U : List Int
  oE : Option Addr
  mE : Nat
  cE : Nat
  es : List EX

/-- A hello in memory. -/
structure HelloAt (w : World) (hb : Nat) (h : HV) : Prop where
  c0 : w.cell? ⟨hb, 0, none⟩ = some (.slice h.oR 32 h.cR)
  c1 : w.cell? ⟨hb, 1, none⟩ = some (.slice h.oS h.mS h.cS)
  c2 : w.cell? ⟨hb, 2, none⟩ = some (.slice h.oU h.mU h.cU)
  c3 : w.cell? ⟨hb, 3, none⟩ = some (.slice h.oE h.mE h.cE)
  r : Src w h.oR 32 1 h.cR (cu8 h.R)
  s : Src w h.oS h.mS 1 h.cS (cu8 h.S)
  u : Src w h.oU h.mU 1 h.cU (cu16 h.U)
  e : ESrc w h.oE h.mE h.cE h.es
/-- The bounds of a hello that fits. -/
structure HFits (h : HV) : Prop where
  s : h.mS ≤ 32
  u : h.mU ≤ 1024
  ur : ∀ x ∈ h.U, 0 ≤ x ∧ x < 65536
  e : h.mE ≤ 256
  d : ∀ x ∈ h.es, x.d.length ≤ 1024
  all : (encE h.es).length ≤ 65535
theorem HelloAt.grew {w w' : World} {hb : Nat} {h : HV} {o2 : Option Addr} (H : HelloAt w hb h) (hg : Grew w w' none o2) : HelloAt w' hb h :=
  ⟨hg.keep H.c0, hg.keep H.c1, hg.keep H.c2, hg.keep H.c3, H.r.grew hg (by simp [blk]), H.s.grew hg (by simp [blk]), H.u.grew hg (by simp [blk]), H.e.grew hg⟩

/-- The body of the message, and the message. -/
def body1 (h : HV) : List Int := [3, 3] ++ h.R ++ [(h.mS : Int)] ++ h.S
def body2 (h : HV) : List Int := body1 h ++ [((2 * h.mU : Nat) : Int) / 256, ((2 * h.mU : Nat) : Int) % 256] ++ enc16 h.U
def body3 (h : HV) : List Int := body2 h ++ [1] ++ [0]
def body (h : HV) : List Int := body3 h ++ [((encE h.es).length : Int) / 256, ((encE h.es).length : Int) % 256] ++ encE h.es
def bodyLen (h : HV) : Nat := 35 + h.mS + 2 + 2 * h.mU + 1 + 1 + 2 + (encE h.es).length
def msg (h : HV) : List Int := [1, (bodyLen h : Int) / 65536, (bodyLen h : Int) / 256 % 256, (bodyLen h : Int) % 256] ++ body h

set_option maxRecDepth 100000 in
set_option maxHeartbeats 1600000 in
theorem marshal (hb : Nat) (h : HV) (w : World) (H : HelloAt w hb h) (F : HFits h) :
    Calls Ybaf.prog 7 #[.pointer (some ⟨hb, 0, none⟩)] w fun e w' => ∃ oa2 cap2, e = .returned (.slice oa2 (4 + bodyLen h) cap2) ∧
      w'.ownsRow w.heap.size 5 1 (.slice oa2 (4 + bodyLen h) cap2) (4 + bodyLen h) (cu8 (msg h)) ∧ Grew w w' none oa2 := by
  have HH : Hid (HelloAt w hb h) := H
  have HF : Hid (HFits h) := F
  have hcc : w.cell? ⟨hb, 0, none⟩ = some (.slice h.oR 32 h.cR) ∧ w.cell? ⟨hb, 1, none⟩ = some (.slice h.oS h.mS h.cS) := ⟨H.c0, H.c1⟩
  have hS := F.s
  have hU := F.u
  have hE := F.e
  have hA := F.all
  clear H F
  go_enter Ybaf.func7, Ybaf.ntmps7
  go_wp2_with fail
  go_region_held3 (fun w' => w'.cell? ⟨hb, 0, none⟩ = some (.slice h.oR 32 h.cR) ∧ w'.cell? ⟨hb, 1, none⟩ = some (.slice h.oS h.mS h.cS))
    (first
      | exact hcc
      | assumption)
    (first
      | (go_at_call 10; refine (start_ h.oR h.cR h.R h.oS h.mS h.cS h.S _ w.drew HH.out.r.drew HH.out.s.drew hS).mono ?_; rintro e w1 ⟨oa1, cap1, rfl, hown1, hg1⟩; have hc1 : w1.cell? ⟨hb, 0, none⟩ = some (.slice h.oR 32 h.cR) ∧ w1.cell? ⟨hb, 1, none⟩ = some (.slice h.oS h.mS h.cS) := ⟨hg1.keep hcc.1, hg1.keep hcc.2⟩))
  have G1 : Hid (Grew w w1 none oa1) := (grew_drew w none).trans hg1
  have O1 : Hid (w1.ownsRow w.heap.size 5 1 (.slice oa1 (35 + h.mS) cap1) (35 + h.mS) (cu8 (body1 h))) := hown1
  have H1 := HH.out.grew G1.out
  have c12 := H1.c2
  have hs1 := G1.out.size
  clear hg1 hown1 hc1 hcc
  generalize hoU : h.oU = oU at *
  go_wp2_with fail
  refine (u16s oU h.mU h.cU h.U w1 (by subst hoU; exact H1.u) HF.out.ur hU).mono ?_
  rintro e w2 ⟨oX, capX, rfl, hownX, hgX⟩
  have G2 : Hid (Grew w w2 none oa1) := G1.out.trans hgX.aside
  have O2 : Hid (w2.ownsRow w.heap.size 5 1 (.slice oa1 (35 + h.mS) cap1) (35 + h.mS) (cu8 (body1 h))) := owns_kept O1.out hgX (by simp [blk])
  have AX : ∀ k, blk oX = some k → blk oa1 ≠ some k := fun k hk e => by
    have := (owns_lt O1.out k e).2
    have := (owns_lt hownX k hk).1
    omega
  have hs2 := hgX.size
  clear G1 O1 H1 c12
  go_wp2_with fail
  refine (vec2 w.heap.size oa1 (35 + h.mS) cap1 _ oX (2 * h.mU) capX (enc16 h.U) w2 O2.out (src_of_owns hownX) AX (by omega) (by omega) (by omega)).mono ?_
  rintro e w3 ⟨oa3, cap3, rfl, hown3, hg3⟩
  have G3 : Hid (Grew w w3 none oa3) := G2.out.trans hg3
  have O3 : Hid (w3.ownsRow w.heap.size 5 1 (.slice oa3 (35 + h.mS + 2 + 2 * h.mU) cap3) (35 + h.mS + 2 + 2 * h.mU) (cu8 (body2 h))) := hown3
  have hs3 := hg3.size
  clear G2 O2 AX hownX hgX hown3 hg3
  go_wp2_with fail
  refine (vec1 w.heap.size oa3 (35 + h.mS + 2 + 2 * h.mU) cap3 _ (some ⟨w3.heap.size, 0, none⟩) 1 1 [0] _ (O3.out.alloc _) (src_new w3 5 [.int .u8 0] 1 1 1 rfl) ?_ (by omega) (by omega) (by simp; omega)).mono ?_
  · intro k hk e
    have := (owns_lt O3.out k e).2
    have hk' : w3.heap.size = k := Option.some.inj hk
    omega
  rintro e w4 ⟨oa4, cap4, rfl, hown4, hg4⟩
  have G4 : Hid (Grew w w4 none oa4) := (G3.out.trans (Grew.alloc _ _ _)).trans hg4
  have O4 : Hid (w4.ownsRow w.heap.size 5 1 (.slice oa4 (35 + h.mS + 2 + 2 * h.mU + 1 + 1) cap4) (35 + h.mS + 2 + 2 * h.mU + 1 + 1) (cu8 (body3 h))) := hown4
  have hs4 := hg4.size
  simp at hs4
  have H4 := HH.out.grew G4.out
  have c43 := H4.c3
  clear G3 O3 hown4 hg4
  generalize hoE : h.oE = oE at *
  go_wp2_with fail
  refine (mexts oE h.mE h.cE h.es w4 (by subst hoE; exact H4.e) HF.out.d hE).mono ?_
  rintro e w5 ⟨oY, capY, rfl, hownY, hgY⟩
  have G5 : Hid (Grew w w5 none oa4) := G4.out.trans hgY.aside
  have O5 : Hid (w5.ownsRow w.heap.size 5 1 (.slice oa4 (35 + h.mS + 2 + 2 * h.mU + 1 + 1) cap4) (35 + h.mS + 2 + 2 * h.mU + 1 + 1) (cu8 (body3 h))) := owns_kept O4.out hgY (by simp [blk])
  have AY : ∀ k, blk oY = some k → blk oa4 ≠ some k := fun k hk e => by
    have := (owns_lt O4.out k e).2
    have := (owns_lt hownY k hk).1
    omega
  have hs5 := hgY.size
  clear G4 O4 H4 c43
  go_wp2_with fail
  refine (vec2 w.heap.size oa4 (35 + h.mS + 2 + 2 * h.mU + 1 + 1) cap4 _ oY (encE h.es).length capY (encE h.es) w5 O5.out (src_of_owns hownY) AY (by omega) (by omega) (by omega)).mono ?_
  rintro e w6 ⟨oa6, cap6, rfl, hown6, hg6⟩
  have G6 : Hid (Grew w w6 none oa6) := G5.out.trans hg6
  have O6 : Hid (w6.ownsRow w.heap.size 5 1 (.slice oa6 (bodyLen h) cap6) (bodyLen h) (cu8 (body h))) := hown6
  have hs6 := hg6.size
  have hbl : bodyLen h ≤ 800000 := by unfold bodyLen; omega
  rw [show 35 + h.mS + 2 + 2 * h.mU + 1 + 1 + 2 + (encE h.es).length = bodyLen h from rfl]
  clear hown6 hg6 G5 O5 AY hownY hgY
  generalize hBL : bodyLen h = BL at *
  go_wp2_with fail
  refine (shake 1 oa6 BL cap6 (body h) w6 (src_of_owns O6.out) hbl).mono ?_
  rintro e w7 ⟨oa7, cap7, rfl, hown7, hg7⟩
  have O7 : Hid (w7.ownsRow w.heap.size 5 1 (.slice oa7 (4 + BL) cap7) (4 + BL) (cu8 (msg h))) := by
    have h7 := owns_base hown7 (base' := w.heap.size) (by omega)
    subst hBL
    exact h7
  have G7 := G6.out.next hg7
  clear hown7 hg7
  go_wp2_with fail
  go_ret
  subst hBL
  exact ⟨oa7, cap7, rfl, O7.out, G7⟩
end Go.Proofs.YbulkjucFmt

import Derived.Test.YbulkjucFmtBuild
import Derived.Test.YbulkjucFmtFits
import Derived.Deep.MidRow
namespace Go.Proofs.YbulkjucFmt
open Go.RowKit
attribute [local go_sem ↓] Go.wp_at_zero Go.wp_at_succ

theorem Grew.make (w : World) (o : Obj) : Grew w (w.alloc o) none (some ⟨w.heap.size, 0, none⟩) :=
  ⟨World.grownBy_alloc w o _, fun g hg => Or.inr (by cases hg; exact Nat.le_refl _)⟩
theorem Src.get16 {w : World} {b off m c k : Nat} {U : List Int} {x : Int} (h : Src w (some ⟨b, off, none⟩) m 1 c (cu16 U)) (hx : U[k]? = some x) : w.cell? ⟨b, off + k, none⟩ = some (.int .u16 x) := by
  rcases h.2 with ⟨h1, _⟩ | ⟨b', off', h1, _, h2⟩
  · cases h1
  · cases h1
    exact h2 k _ (by simp [cu16, hx])
theorem keepU {wM w2 : World} {hb bu off k : Nat} {h : HV} {o2 : Option Addr} {x : Int} (H : HelloAt wM hb h) (hg : Grew wM w2 none o2) (hoU : h.oU = some ⟨bu, off, none⟩) (hx : h.U[k]? = some x) :
    w2.cell? ⟨hb, 2, none⟩ = some (.slice (some ⟨bu, off, none⟩) h.mU h.cU) ∧ w2.cell? ⟨bu, off + k, none⟩ = some (.int .u16 x) := by
  have h2 := H.grew hg
  have c2 := h2.c2
  have u2 := h2.u
  rw [hoU] at c2 u2
  exact ⟨c2, u2.get16 hx⟩
theorem src_at (w : World) (B : Nat) (hB : w.heap.size = B) (e : TypeId) (vs : List Value) (n size c : Nat) (hn : vs.length = n * size) : Src (w.alloc (.cells vs.toArray e)) (some ⟨B, 0, none⟩) n size c vs := by
  subst hB; exact src_new w e vs n size c hn
theorem encE_key (es : List EX) : encE es = (es.map key).flatMap fun p => [p.1 / 256, p.1 % 256, (p.2.length : Int) / 256, (p.2.length : Int) % 256] ++ p.2 := by
  simp [encE, List.flatMap_map, key]
theorem Mid.fits {w wr : World} {hb nU nE : Nat} {R S U : List Int} {es : List EX} {h : HV} (M : Mid w wr hb R (S.take 32) U es h) (F : Fit nU nE es) (hU : U.length = nU) (hr : ∀ x ∈ U, 0 ≤ x ∧ x < 65536) (hE : h.mE = nE) : HFits h := by
  obtain ⟨f1, f2, f3, f4⟩ := F
  have l1 := M.own.s.1
  rw [cu8_length, M.eS] at l1
  have l2 := M.own.u.1
  rw [cu16_length, M.eU] at l2
  refine ⟨by simp at l1; omega, by omega, by rw [M.eU]; exact hr, by omega, ?_, ?_⟩
  · intro x hx
    have : key x ∈ es.map key := by rw [← M.ks]; exact List.mem_map.2 ⟨x, hx, rfl⟩
    obtain ⟨y, hy, e⟩ := List.mem_map.1 this
    have e2 : y.d = x.d := congrArg Prod.snd e
    rw [← e2]
    exact f3 y hy
  · rw [encE_key, M.ks, ← encE_key]; exact f4

set_option maxRecDepth 100000 in
set_option maxHeartbeats 1600000 in
theorem layout_any (R S U : List Int) (nS cS nU cU nE cE : Nat) (oS oU oE : Option Addr) (es : List EX) (w : World) (hR : R.length = 32) (hS : Src w oS nS 1 cS (cu8 S)) (hSc : nS ≤ cS) (hSm : nS ≤ maxLen) (hU : Src w oU nU 1 cU (cu16 U)) (hUr : ∀ x ∈ U, 0 ≤ x ∧ x < 65536) (hE : AESrc w oE nE cE es) :
    Calls Ybaf.prog 3 #[.agg (cu8 R).toArray, .slice oS nS cS, .slice oU nU cU, .slice oE nE cE] w fun e w' => e = .returned (.bool true) ∧ Below w.heap.size w w' := by
  have HR : Hid (R.length = 32) := hR
  have HS : Hid (Src w oS nS 1 cS (cu8 S)) := hS
  have HU : Hid (Src w oU nU 1 cU (cu16 U)) := hU
  have HUr : Hid (∀ x ∈ U, 0 ≤ x ∧ x < 65536) := hUr
  have HE : Hid (AESrc w oE nE cE es) := hE
  clear hR hS hU hUr hE
  go_enter Ybaf.func3, Ybaf.ntmps3
  go_wp2_with fail
  generalize hW0 : w.alloc (.cells (cu8 R).toArray 22) = w0
  have HG0 : Hid (Grew w w0 none none) := by rw [← hW0]; exact Grew.alloc _ _ _
  have hblk : Hid (w0.heap[w.heap.size]? = some (.cells (cu8 R).toArray 22 (0, 0))) := by rw [← hW0]; exact heap_alloc_new w _
  have hs0 := HG0.out.size
  clear hW0
  refine (fits_any oU oE nU cU nE cE es w0 (HE.out.grew HG0.out)).mono ?_
  rintro e w' ⟨rfl, rfl | ⟨rfl, HF0⟩⟩
  · go_wp2
    go_ret
    exact ⟨rfl, HG0.out.below (Nat.le_refl _) (by simp [blk])⟩
  have HF : Hid (Fit nU nE es) := HF0
  clear HF0
  go_wp2_with (first
    | (refine wpList_load_mid rfl 22 (.tmp 4) rfl w.heap.size 0 (by rfl) (cu8 R) _ (fun j v hj => by rw [← add_plain]; exact World.news_of_block hblk.out j v (by simpa using hj)) Ybaf.underlying22 rfl (by rw [cu8_length, HR.out]; kernel_rfl) ?_))
  refine (build_plain R S U nS cS nU cU nE cE oS oU oE es w' HR.out (HS.out.grew HG0.out (by simp [blk])) hSc hSm (HU.out.grew HG0.out (by simp [blk])) (HE.out.grew HG0.out) HF.out.1 HF.out.2.1 HF.out.2.2.1).mono ?_
  rintro e wB ⟨hb, h, rfl, M, hmE⟩
  have HFt : Hid (HFits h) := M.fits HF.out (by have := HU.out.1; rw [cu16_length] at this; omega) HUr.out hmE
  have HHB : Hid (HelloAt wB hb h) := M.own.hello
  have HLB : Hid (Below w.heap.size w wB) := (HG0.out.below (Nat.le_refl _) (by simp [blk])).trans (M.low.mono hs0)
  have hsB := HLB.out.size
  clear M HR HS HU HUr HE HF HG0 hblk hmE
  go_wp2_with fail
  refine (marshal hb h wB HHB.out HFt.out).mono ?_
  rintro e wM ⟨oG, cG, rfl, hownG, hgG⟩
  have HHM : Hid (HelloAt wM hb h) := HHB.out.grew hgG
  have HLM : Hid (Below w.heap.size w wM) := HLB.out.trans (hgG.below hsB (by simp [blk]))
  have HSG : Hid (Src wM oG (4 + bodyLen h) 1 cG (cu8 (msg h))) := src_of_owns hownG
  have hsM := HLM.out.size
  have hbM : hb < wM.heap.size := World.block_lt_of_cell? wM _ HHM.out.c0
  have c0M := HHM.out.c0
  have hmS := HFt.out.s
  have hmU := HFt.out.u
  have hmE := HFt.out.e
  clear hownG hgG HHB HLB hs0 hsB
  go_upto_region 11 with (first
    | (at_builtin; refine app8 rfl (.tmp 31) (.tmp 35) (by rfl) wM.heap.size (some ⟨wM.heap.size, 0, none⟩) 2 2 [3, 3] (by rfl) (owns_new wM wM.heap.size 5 [.int .u8 3, .int .u8 3] 2 1 rfl (Nat.le_refl _) (by decide)) h.oR 32 h.cR h.R (by rfl) (HHM.out.r.grew (Grew.make wM _) (by simp [blk])) (by omega) (by simp) ?_; intro o6 c6 w6 O6 G6'; have G6 : Hid (Grew wM w6 none o6) := (Grew.make wM _).trans G6'; have k61 := (HHM.out.grew G6.out).c1; have s6 := G6.out.size; clear G6' c0M)
    | (at_builtin; refine app8 rfl (.tmp 37) (.tmp 44) (by rfl) wM.heap.size o6 (2 + 32) c6 _ (by rfl) (O6.alloc _) (some ⟨w6.heap.size, 0, none⟩) 1 1 [(h.mS : Int)] (by rfl) (src_new w6 5 [.int .u8 (h.mS : Int)] 1 1 1 rfl) (by omega) (by simp; omega) ?_; intro o7 c7 w7 O7 G7'; have G7 : Hid (Grew wM w7 none o7) := (G6.out.trans (Grew.alloc _ _ _)).trans G7'; have k71 := (HHM.out.grew G7.out).c1; have s7 := G7.out.size; clear G7' k61 O6 G6)
    | (at_builtin; refine app8 rfl (.tmp 46) (.tmp 50) (by rfl) wM.heap.size o7 (2 + 32 + 1) c7 _ (by rfl) O7 h.oS h.mS h.cS h.S (by rfl) (HHM.out.grew G7.out).s (by omega) (by omega) ?_; intro o8 c8 w8 O8 G8'; have G8 : Hid (Grew wM w8 none o8) := G7.out.trans G8'; have k82 := (HHM.out.grew G8.out).c2; have s8 := G8.out.size; clear G8' k71 O7 G7)
    | (at_builtin; refine app8 rfl (.tmp 58) (.tmp 64) (by rfl) wM.heap.size o8 (2 + 32 + 1 + h.mS) c8 _ (by rfl) (O8.alloc _) (some ⟨w8.heap.size, 0, none⟩) 2 2 [2 * (h.mU : Int) / 256, 2 * (h.mU : Int) % 256] (by rfl) (src_new w8 5 [.int .u8 (2 * (h.mU : Int) / 256), .int .u8 (2 * (h.mU : Int) % 256)] 2 1 2 rfl) (by omega) (by simp; omega) ?_; intro o10 c10 w10 O10 G10'; have G10 : Hid (Grew wM w10 none o10) := (G8.out.trans (Grew.alloc _ _ _)).trans G10'; have s10 := G10.out.size; clear G10' k82 O8 G8))
  generalize hpre : [(3 : Int), 3] ++ h.R ++ [(h.mS : Int)] ++ h.S ++ [2 * (h.mU : Int) / 256, 2 * (h.mU : Int) % 256] = pre at *
  have Hpre : Hid ([(3 : Int), 3] ++ h.R ++ [(h.mS : Int)] ++ h.S ++ [2 * (h.mU : Int) / 256, 2 * (h.mU : Int) % 256] = pre) := hpre
  have O11 : Hid (w10.ownsRow wM.heap.size 5 1 (.slice o10 (35 + h.mS + 2) c10) (35 + h.mS + 2) (cu8 pre)) := O10
  clear O10 hpre
  go_wp2_with fail
  go_loopw [11, 13] (fun b i wr => ∃ (k : Nat) (oB : Option Addr) (cB : Nat), k ≤ h.mU ∧ i = .int .i64 (k : Nat) ∧ b = .slice oB (35 + h.mS + 2 + 2 * k) cB ∧ wr.ownsRow wM.heap.size 5 1 (.slice oB (35 + h.mS + 2 + 2 * k) cB) (35 + h.mS + 2 + 2 * k) (cu8 (pre ++ enc16 (h.U.take k))) ∧ Grew wM wr none oB) (fun _ i _ => h.mU - (intOf i).toNat)
  case atStart => exact ⟨0, o10, c10, Nat.zero_le _, rfl, rfl, by simpa [enc16] using O11.out, G10.out⟩
  case round =>
    obtain ⟨k, oB, cB, hk, rfl, rfl, hown, hg⟩ := hrel
    have H1 := HHM.out.grew hg
    have c2 := H1.c2
    have hs := hg.size
    by_cases hlt : k < h.mU
    · obtain ⟨bu, off, hoU, hbu, x, hx, cx⟩ := H1.u.at16 hlt
      rw [hoU] at c2
      obtain ⟨hx0, hx1⟩ := HFt.out.ur x (List.mem_of_getElem? hx)
      have HX : Hid (h.U[k]? = some x) := hx
      have HO : Hid (wr.ownsRow wM.heap.size 5 1 (.slice oB (35 + h.mS + 2 + 2 * k) cB) (35 + h.mS + 2 + 2 * k) (cu8 (pre ++ enc16 (h.U.take k)))) := hown
      have HG : Hid (Grew wM wr none oB) := hg
      have hcc : wr.cell? ⟨hb, 2, none⟩ = some (.slice (some ⟨bu, off, none⟩) h.mU h.cU) ∧ wr.cell? ⟨bu, off + k, none⟩ = some (.int .u16 x) := ⟨c2, cx⟩
      have hz : x / 256 < 256 := by omega
      have hz0 : 0 ≤ x / 256 := by omega
      have HoU : Hid (h.oU = some ⟨bu, off, none⟩) := hoU
      have hw1 : IntKind.u8.wrap (x / 256) = x / 256 := IntWalk.u8_in _ (by omega)
      have hw2 : IntKind.u8.wrap x = x % 256 := by rw [IntKind.wrap_u8]
      clear hx hown hg H1 O11 G10 hoU
      go_wp2_with fail
      go_region_held3 (fun w' => w'.cell? ⟨hb, 2, none⟩ = some (.slice (some ⟨bu, off, none⟩) h.mU h.cU) ∧ w'.cell? ⟨bu, off + k, none⟩ = some (.int .u16 x))
        (first
          | exact hcc
          | exact ⟨keep_alloc hcc.1 _, keep_alloc hcc.2 _⟩
          | assumption)
        (first
          | (refine app8_step (by rfl) (.tmp 75) (.tmp 93) (by rfl) wM.heap.size oB (35 + h.mS + 2 + 2 * k) cB (pre ++ enc16 (h.U.take k)) (by rfl) (World.ownsRow.drew (HO.out.alloc _)) (some ⟨wr.heap.size, 0, none⟩) 2 2 [x / 256, x % 256] (by rfl) (Src.drew (src_new wr 5 [.int .u8 (x / 256), .int .u8 (x % 256)] 2 1 2 rfl)) (by omega) (by simp; omega) ?_; intro oB2 cB2 w2 hown2 hg2'; have hg2 : Grew wM w2 none oB2 := ((HG.out.trans (Grew.alloc _ _ _)).trans (grew_drew _ _)).trans hg2'; have hc2 : w2.cell? ⟨hb, 2, none⟩ = some (.slice (some ⟨bu, off, none⟩) h.mU h.cU) ∧ w2.cell? ⟨bu, off + k, none⟩ = some (.int .u16 x) := keepU HHM.out hg2 HoU.out HX.out))
      clear hw1 hw2 hcc hc2 c2 cx
      have HO2 : Hid (w2.ownsRow wM.heap.size 5 1 (.slice oB2 (35 + h.mS + 2 + 2 * k + 2) cB2) (35 + h.mS + 2 + 2 * k + 2) (cu8 (pre ++ enc16 (h.U.take (k + 1))))) := by
        have h2 := hown2
        rw [List.append_assoc] at h2
        rw [List.take_add_one, HX.out, enc16_snoc]
        exact h2
      have HG2 : Hid (Grew wM w2 none oB2) := hg2
      clear hown2 hg2 hg2'
      go_wp2
      go_roundw
      case rel => exact ⟨k + 1, oB2, cB2, by omega, by go_num, by rw [show 35 + h.mS + 2 + 2 * (k + 1) = 35 + h.mS + 2 + 2 * k + 2 from by omega], by rw [show 35 + h.mS + 2 + 2 * (k + 1) = 35 + h.mS + 2 + 2 * k + 2 from by omega]; exact HO2.out, HG2.out⟩
      case measure => simp [intOf]; omega
    · have hkn : k = h.mU := by omega
      subst hkn
      have hul := H1.u.1
      rw [cu16_length] at hul
      rw [List.take_of_length_le (l := h.U) (by omega)] at hown
      have HO : Hid (wr.ownsRow wM.heap.size 5 1 (.slice oB (35 + h.mS + 2 + 2 * h.mU) cB) (35 + h.mS + 2 + 2 * h.mU) (cu8 (pre ++ enc16 h.U))) := hown
      have HG : Hid (Grew wM wr none oB) := hg
      clear hown hg H1 O11 G10 hul
      go_upto_region 16 with (first
        | (at_builtin; refine app8 rfl (.tmp 95) (.tmp 96) (by rfl) wM.heap.size oB (35 + h.mS + 2 + 2 * h.mU) cB _ (by rfl) (HO.out.alloc _) (some ⟨wr.heap.size, 0, none⟩) 2 2 [1, 0] (by rfl) (src_new wr 5 [.int .u8 1, .int .u8 0] 2 1 2 rfl) (by omega) (by simp; omega) ?_; intro oC cC w15 O15 G15'; have G15 : Hid (Grew wM w15 none oC) := (HG.out.trans (Grew.alloc _ _ _)).trans G15'; have s15 := G15.out.size; clear G15' HO HG))
      generalize hpre2 : pre ++ enc16 h.U ++ [1, 0] = pre2 at *
      have Hpre2 : Hid (pre ++ enc16 h.U ++ [1, 0] = pre2) := hpre2
      generalize hN2 : 35 + h.mS + 2 + 2 * h.mU + 2 = N2 at *
      have HN2 : Hid (35 + h.mS + 2 + 2 * h.mU + 2 = N2) := hN2
      have hN2b : N2 ≤ 3000 := by omega
      have P15 : Hid (w15.ownsRow wM.heap.size 5 1 (.slice oC N2 cC) N2 (cu8 pre2)) := O15
      have HH15 : Hid (HelloAt w15 hb h) := HHM.out.grew G15.out
      clear O15 hpre2 hN2 c2
      go_wp2_with fail
      go_loopw [14, 15] (fun b i wr => ∃ (k : Nat) (oX : Option Addr) (cX : Nat), k ≤ h.mE ∧ i = .int .i64 (k : Nat) ∧ b = .slice oX (encE (h.es.take k)).length cX ∧ wr.ownsRow w15.heap.size 5 1 (.slice oX (encE (h.es.take k)).length cX) (encE (h.es.take k)).length (cu8 (encE (h.es.take k))) ∧ Grew w15 wr none oX) (fun _ i _ => h.mE - (intOf i).toNat)
      case atStart => exact ⟨0, none, 0, Nat.zero_le _, rfl, rfl, World.ownsRow_nil _ _ _ _, Grew.refl _ _⟩
      case round =>
        obtain ⟨k, oX, cX, hk, rfl, rfl, hown, hg⟩ := hrel
        have H1 := HH15.out.grew hg
        have c3 := H1.c3
        have hs' := hg.size
        have hel := H1.e.length
        by_cases hlt : k < h.mE
        · obtain ⟨be, off, hoE, hbe, x, hx, ce0, ce1⟩ := H1.e.at_ hlt
          rw [hoE] at c3
          have hmem : x ∈ h.es := List.mem_of_getElem? hx
          obtain ⟨hx0, hx1⟩ := H1.e.fits x hmem
          have hd1 := HFt.out.d x hmem
          have HX : Hid (h.es[k]? = some x) := hx
          have HSx : Hid (Src wr x.ob x.d.length 1 x.c (cu8 x.d)) := H1.e.data x hmem
          have HPx : Hid (∀ j, blk x.ob = some j → blk oX ≠ some j) := (HH15.out.e.data x hmem).apart hg
          have hbd := encE_bound (h.es.take k) fun y hy => HFt.out.d y (List.mem_of_mem_take hy)
          have htl : (h.es.take k).length ≤ k := by simp; omega
          have HB : Hid (encE (h.es.take (k + 1)) = encE (h.es.take k) ++ ([x.ty / 256, x.ty % 256, (x.d.length : Int) / 256, (x.d.length : Int) % 256] ++ x.d)) := by
            show _ = _
            rw [List.take_add_one, HX.out, encE_snoc]
            simp
          generalize encE (h.es.take k) = pX at *
          have hN : pX.length ≤ 300000 := by omega
          generalize hNN : pX.length = N at *
          have HO : Hid (wr.ownsRow w15.heap.size 5 1 (.slice oX N cX) N (cu8 pX)) := hown
          have HG : Hid (Grew w15 wr none oX) := hg
          have hne : blk oX ≠ some wr.heap.size := fun e => by have := (owns_lt HO.out _ e).2; omega
          clear hx hown hg H1 hbd htl hmem hel hoE
          obtain ⟨ty, ob, c, d⟩ := x
          simp only at *
          generalize hdl : d.length = dl at *
          go_wp2_with (first
            | (at_builtin; refine app8 rfl (.tmp 114) (.tmp 131) (by rfl) w15.heap.size oX N cX _ (by rfl) ((HO.out.alloc _).alloc _) (some ⟨wr.heap.size + 1, 0, none⟩) 4 4 [ty / 256, ty % 256, (dl : Int) / 256, (dl : Int) % 256] (by rfl) (src_at _ (wr.heap.size + 1) (by simp) 5 [.int .u8 (ty / 256), .int .u8 (ty % 256), .int .u8 ((dl : Int) / 256), .int .u8 ((dl : Int) % 256)] 4 1 4 rfl) (by omega) (by simp; omega) ?_; intro oX2 cX2 w21 O21 G21'; have c21 : w21.cell? ⟨wr.heap.size, 1, none⟩ = some (.slice ob dl c) := G21'.grown.cell (keep_alloc (cell_new1 wr 36 _ _) _) fun e => hne e.symm; have G21 : Hid (Grew wr w21 oX oX2) := ((Grew.alloc _ _ _).trans (Grew.alloc _ _ _)).trans G21'; have s21 := G21.out.size; clear G21')
            | (at_builtin; refine app8 rfl (.tmp 133) (.tmp 135) (by rfl) w15.heap.size oX2 (N + 4) cX2 _ (by rfl) O21 ob dl c d (by rfl) (HSx.out.grew G21.out HPx.out) (by omega) (by omega) ?_; intro oX3 cX3 w22 O22 G22'; have G22 : Hid (Grew w15 w22 none oX3) := (HG.out.trans G21.out).trans G22'; clear G22'))
          have HL : Hid ((encE (h.es.take (k + 1))).length = N + 4 + dl) := by
            rw [HB.out]
            exact by show _ = _; simp [hNN, hdl]; omega
          have O22' : Hid (w22.ownsRow w15.heap.size 5 1 (.slice oX3 (N + 4 + dl) cX3) (N + 4 + dl) (cu8 (encE (h.es.take (k + 1))))) := by
            have h2 := O22
            rw [List.append_assoc, ← HB.out] at h2
            exact h2
          go_roundw
          case rel => exact ⟨k + 1, oX3, cX3, by omega, by go_num, by rw [HL.out], by rw [HL.out]; exact O22'.out, G22.out⟩
          case measure => simp [intOf]; omega
        · have hkn : k = h.mE := by omega
          subst hkn
          rw [List.take_of_length_le (l := h.es) (by omega)] at *
          have hE := HFt.out.all
          have HE : Hid (wr.ownsRow w15.heap.size 5 1 (.slice oX (encE h.es).length cX) (encE h.es).length (cu8 (encE h.es))) := hown
          have HC : Hid (wr.ownsRow wM.heap.size 5 1 (.slice oC N2 cC) N2 (cu8 pre2)) := owns_kept P15.out hg (by simp [blk])
          have HX : Hid (∀ j, blk oX = some j → blk oC ≠ some j) := fun j hj e => by
            have := (owns_lt hown j hj).1
            have := (owns_lt P15.out j e).2
            omega
          have HG : Hid (Grew wM wr none oC) := G15.out.trans hg.aside
          generalize hel2 : (encE h.es).length = EL at *
          have HEL : Hid ((encE h.es).length = EL) := hel2
          clear hown hg H1 P15 G15 hel2 hel
          go_wp2_with (first
            | (at_builtin; refine app8 rfl (.tmp 137) (.tmp 145) (by rfl) wM.heap.size oC N2 cC _ (by rfl) (HC.out.alloc _) (some ⟨wr.heap.size, 0, none⟩) 2 2 [(EL : Int) / 256, (EL : Int) % 256] (by rfl) (src_new wr 5 [.int .u8 ((EL : Int) / 256), .int .u8 ((EL : Int) % 256)] 2 1 2 rfl) (by omega) (by simp; omega) ?_; intro oC2 cC2 w23 O23 G23'; have G23 : Hid (Grew wr w23 oC oC2) := (Grew.alloc _ _ _).trans G23'; have s23 := G23.out.size; clear G23')
            | (at_builtin; refine app8 rfl (.tmp 147) (.tmp 148) (by rfl) wM.heap.size oC2 (N2 + 2) cC2 _ (by rfl) O23 oX EL cX (encE h.es) (by rfl) ((src_of_owns HE.out).grew G23.out HX.out) (by omega) (by omega) ?_; intro oC3 cC3 w24 O24 G24'; obtain ⟨NB, hNB⟩ : ∃ NB, NB = N2 + 2 + EL := ⟨_, rfl⟩; rw [← hNB] at O24 ⊢; have HNB : Hid (NB = N2 + 2 + EL) := hNB; have hNBb : NB ≤ 70000 := (by omega); clear hNB; have G24 : Hid (Grew wM w24 none oC3) := (HG.out.trans G23.out).trans G24'; have s24 := G24.out.size; clear G24')
            | (at_builtin; refine app8 rfl (.tmp 161) (.tmp 162) (by rfl) w24.heap.size (some ⟨w24.heap.size, 0, none⟩) 4 4 [1, (NB : Int) / 65536, (NB : Int) / 256 % 256, (NB : Int) % 256] (by rfl) (owns_new w24 w24.heap.size 5 [.int .u8 1, .int .u8 ((NB : Int) / 65536), .int .u8 ((NB : Int) / 256 % 256), .int .u8 ((NB : Int) % 256)] 4 1 rfl (Nat.le_refl _) (by decide)) oC3 NB cC3 _ (by rfl) ((src_of_owns O24).grew (Grew.alloc _ _ none) (by simp [blk])) (by omega) (by simp) ?_; intro o27 c27 w27 O27 G27'; have G27 : Hid (Grew w24 w27 none o27) := (Grew.make w24 _).trans G27'; clear G27'))
          have hmsg : Hid ([1, (NB : Int) / 65536, (NB : Int) / 256 % 256, (NB : Int) % 256] ++ (pre2 ++ [(EL : Int) / 256, (EL : Int) % 256] ++ encE h.es) = msg h ∧ NB = bodyLen h) := by
            have e1 := HN2.out
            have e2 := HNB.out
            have e3 := HEL.out
            have eN : NB = bodyLen h := by unfold bodyLen; omega
            refine ⟨?_, eN⟩
            rw [eN, ← Hpre2.out, ← Hpre.out, ← e3]
            simp [msg, body, body3, body2, body1]
          have O27' : Hid (w27.ownsRow w24.heap.size 5 1 (.slice o27 (4 + NB) c27) (4 + NB) (cu8 (msg h))) := by
            rw [← hmsg.out.1]
            exact O27
          rw [← hmsg.out.2] at HSG ⊢
          refine (equal_true oG o27 (4 + NB) cG c27 (msg h) w27 (by omega) ((HSG.out.grew G24.out (by simp [blk])).grew G27.out (by simp [blk])) (src_of_owns O27'.out)).mono ?_
          rintro e w28 ⟨rfl, rfl⟩
          have hlow : Below w.heap.size w w28 := (HLM.out.trans (G24.out.below hsM (by simp [blk]))).trans (G27.out.below (Nat.le_trans hsM s24) (by simp [blk]))
          clear O23 O24 O27 O27' hmsg
          go_wp2
          go_ret
          exact ⟨rfl, hlow⟩
end Go.Proofs.YbulkjucFmt

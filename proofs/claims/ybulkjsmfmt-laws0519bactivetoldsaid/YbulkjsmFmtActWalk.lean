import Derived.Test.YbulkjsmFmtSubAct
import Derived.Test.YbulkjsmFmtFrame
namespace Go.Proofs.YbulkjsmFmt
open Go.RowKit
attribute [local go_sem ↓] Go.wp_at_zero Go.wp_at_succ

/-- The octets of the frame. -/
def frameI (v : Int) (peer : Bool) (id m : Int) (FL L : List Int) : List Int :=
  [8, 2, first v peer, v % 256, 98, 28, 24 + m] ++ FL ++ ([161, 10 + m, 2, 1, id, 2, 1, 14] ++ ([48, 2 + m, 4, m] ++ L))

theorem frameI_cells (v : Int) (peer : Bool) (id m : Int) (FL L : List Int) :
    ([.int .u8 8, .int .u8 2, .int .u8 (first v peer), .int .u8 (v % 256), .int .u8 98, .int .u8 28, .int .u8 (24 + m)] ++ cu8 FL ++
        ([.int .u8 161, .int .u8 (10 + m), .int .u8 2, .int .u8 1, .int .u8 id, .int .u8 2, .int .u8 1, .int .u8 14] ++ ([.int .u8 48, .int .u8 (2 + m), .int .u8 4, .int .u8 m] ++ cu8 L)) : List Value) = cu8 (frameI v peer id m FL L) := by
  simp [frameI, cu8]

theorem frameI_length (v : Int) (peer : Bool) (id m : Int) (FL L : List Int) (hF : FL.length = 12) : (frameI v peer id m FL L).length = 31 + L.length := by
  simp [frameI, hF]; omega

theorem frameI_23 (v : Int) (peer : Bool) (id m : Int) (FL L : List Int) (hF : FL.length = 12) : (cu8 (frameI v peer id m FL L))[23]? = some (.int .u8 id) := by
  unfold frameI
  rw [cu8_append, cu8_append, List.getElem?_append_right (by simp [cu8, hF])]
  simp [cu8, hF]

theorem lies_cell {w : World} {g : Nat} {xs : List Value} (h : LiesAt w ⟨g, 0, none⟩ xs) (j : Nat) {u : Value} (hj : xs[j]? = some u) : w.cell? ⟨g, j, none⟩ = some u := by
  have hadd : (⟨g, 0, none⟩ : Addr).add j = ⟨g, j, none⟩ := by unfold Addr.add; split <;> simp_all
  rw [← hadd]; exact h j u hj

set_option maxRecDepth 100000 in
set_option maxHeartbeats 1600000 in
theorem act_seven_f (v sel : Int) (peer : Bool) (ad : Addr) (m c : Nat) (L : List Int) (fa : Addr) (fc : Nat) (FL : List Int) (w : World) (h0 : 0 ≤ v) (h1 : v < 65536) (hs0 : 0 ≤ sel) (hs1 : sel ≤ 255) (hst : sel % 10 = 7) (hm : 1 ≤ m) (hm2 : m ≤ 20)
    (hl : L.length = m) (hc : LiesAt w ad (cu8 L)) (hab : ad.block < w.heap.size) (hF : w.cell? ⟨0, 0, none⟩ = some (.slice (some fa) 12 fc)) (hFl : FL.length = 12) (hFc : LiesAt w fa (cu8 FL)) (hfb : fa.block < w.heap.size) :
    Calls Ybaf.prog 3 #[.int .u16 v, .bool peer, .slice (some ad) m c, .int .u8 sel, .bool false] w fun e w' => e = .returned (.bool true) ∧ Below w.heap.size w w' := by
  have HC : Hid (LiesAt w ad (cu8 L)) := hc
  have HL : Hid (L.length = m) := hl
  have HFl : Hid (FL.length = 12) := hFl
  have HFc : Hid (LiesAt w fa (cu8 FL)) := hFc
  have hw0 := World.block_lt_of_cell? w _ hF
  have hl0 : ((m : Int) == 0) = false := beq_eq_false_iff_ne.2 (by omega)
  have hl2 : decide ((20 : Int) < (m : Int)) = false := decide_eq_false (by omega)
  have e51 := fun (w : World) (a : Option Addr) (n c : Nat) => Lib.run_eql_slice_nil (P := Ybaf.prog) w 51 23 a n c 0 0 Ybaf.underlying51
  clear hc hl hFl hFc
  go_enter Ybaf.func3, Ybaf.ntmps3
  go_wp2_with (first
    | (go_at_call 5; refine (add_any _).mono ?_; rintro e w' ⟨rfl, rfl⟩)
    | (go_at_call 6; go_in))
  have hS := stageW_stage w v peer 7 0
  have hB := stageW_below w v peer 7 0
  have hZ := stageW_size w v peer 7 0
  have C1 := sub_active _ _ _ _ _ 0 v peer ad m c (cu8 L) fa fc (cu8 FL) _ h0 h1 (by omega) (by omega) hm hm2 hS (by omega) (by omega) (by omega) (by rw [cu8_length]; exact HL.out) (LiesAt.below HC.out hB hab) (cu8_one _) ((hB.cell hw0).trans hF) (by rw [cu8_length]; exact HFl.out) (LiesAt.below HFc.out hB hfb) (cu8_one _) (by omega)
  refine Calls.mono (by exact C1) ?_
  clear C1
  rintro e w1 ⟨g1, f1, cap1, rfl, hcell1, hge1, hlt1, hown1, hb1⟩
  generalize hW : stageW w v peer 7 0 = W0 at *
  clear hW
  rw [frameI_cells, show (0 : Int) + 1 = 1 from rfl] at hown1
  have S1 := (hS.set (by omega) (by omega) (by omega) (by omega) 1).below (w1 := w1) (by simpa using hb1)
  clear hS
  have hk0 := S1.k0
  have hk1 := S1.k1
  have HS : Hid (Stage w1 (w.heap.size + 1 + 1) w.heap.size (w.heap.size + 1) (w.heap.size + 1 + 1 + 1 + 1) (w.heap.size + 1 + 1 + 1) 1 v 7 peer) := S1
  have hB1 : Below w.heap.size w w1 := (hB.setCell (p := ⟨w.heap.size, 8, none⟩) (Nat.le_refl _) _).trans (hb1.mono (by omega))
  have h23 := lies_cell (lies_of_owns hown1) 23 (frameI_23 v peer 1 m FL L HFl.out)
  have hf1 := owns_block_lt hown1
  have hg1 : w.heap.size + 5 ≤ g1 := by omega
  have hz1 := hB1.size
  have LC1 : Hid (LiesAt w1 ad (cu8 L)) := LiesAt.below HC.out hB1 hab
  have LF1 : Hid (LiesAt w1 fa (cu8 FL)) := LiesAt.below HFc.out hB1 hfb
  have F1 : w1.cell? ⟨0, 0, none⟩ = some (.slice (some fa) 12 fc) := (hB1.cell hw0).trans hF
  clear S1 hb1 hB HC HFc hF
  go_wp2_with fail
  go_region_held3 (fun w' => w'.cell? ⟨g1, 0, none⟩ = some (.slice (some ⟨f1, 0, none⟩) (31 + m) cap1))
    (first
      | exact keep_drew hcell1
      | assumption)
    (first
      | (go_at_call 9; refine (frame_any v 1 peer ad m c (cu8 L) fa fc (cu8 FL) _ h0 h1 (by omega) (by omega) (by omega) (by omega) (by rw [cu8_length]; exact HL.out) (LiesAt.drew LC1.out) (cu8_one _) (keep_drew F1) (by rw [cu8_length]; exact HFl.out) (LiesAt.drew LF1.out) (cu8_one _) (by show fa.block < w1.heap.size; omega)).mono ?_; rintro e w2 ⟨g2, cap2, rfl, hw2own, hw2b⟩; rw [frameI_cells] at hw2own; have hw2c : w2.cell? ⟨g1, 0, none⟩ = some (.slice (some ⟨f1, 0, none⟩) (31 + m) cap1) := (hw2b.cell (p := ⟨g1, 0, none⟩) (by show g1 < w1.heap.size; omega)).trans hcell1)
      | (go_at_call 8; refine (equal_true f1 (31 + m) cap1 g2 cap2 (frameI v peer 1 m FL L) _ (by rw [frameI_length _ _ _ _ _ _ HFl.out]; have := HL.out; omega) (LiesAt.below (LiesAt.drew (lies_of_owns hown1)) hw2b hf1.2) (lies_of_owns hw2own)).mono ?_; rintro e w' ⟨rfl, hw⟩; subst w'))
  have hw2b' : Below w1.heap.size w1 w2 := ((Below.refl _ _).drew).trans hw2b
  have S2 := HS.out.below hw2b'
  have hB2 : Below w.heap.size w w2 := hB1.trans (hw2b'.mono hz1)
  have hz2 := hw2b'.size
  have k02 := S2.k0
  have hz2w : w.heap.size ≤ w2.heap.size := by omega
  have LC2 : Hid (LiesAt w2 ad (cu8 L)) := LiesAt.below LC1.out hw2b' (by omega)
  have LF2 : Hid (LiesAt w2 fa (cu8 FL)) := LiesAt.below LF1.out hw2b' (by omega)
  have F2 : w2.cell? ⟨0, 0, none⟩ = some (.slice (some fa) 12 fc) := (hw2b'.cell (p := ⟨0, 0, none⟩) (by show 0 < w1.heap.size; omega)).trans F1
  clear hw2b hw2b' HS LC1 LF1 F1 hcell1 h23 hk0 hk1 hw2own hown1 hw2c hZ hge1
  go_wp2_with fail
  have C2 := sub_active _ _ _ _ _ 1 v peer ad m c (cu8 L) fa fc (cu8 FL) _ h0 h1 (by omega) (by omega) hm hm2 S2 (by omega) (by omega) (by omega) (by rw [cu8_length]; exact HL.out) LC2.out (cu8_one _) F2 (by rw [cu8_length]; exact HFl.out) LF2.out (cu8_one _) (by omega)
  refine Calls.mono (by exact C2) ?_
  clear C2
  rintro e w3 ⟨g3, f3, cap3, rfl, hcell3, hge3, hlt3, hown3, hb3⟩
  rw [frameI_cells, show (1 : Int) + 1 = 2 from rfl] at hown3
  have hB3 : Below w.heap.size w w3 := (hB2.setCell (p := ⟨w.heap.size, 8, none⟩) (Nat.le_refl _) _).trans (hb3.mono hz2w)
  have hz3 := hB3.size
  have hf3 := owns_block_lt hown3
  have LC3 : Hid (LiesAt w3 ad (cu8 L)) := LiesAt.below (LC2.out.setCell (by show ad.block ≠ w.heap.size; omega) _) hb3 (by omega)
  have LF3 : Hid (LiesAt w3 fa (cu8 FL)) := LiesAt.below (LF2.out.setCell (by show fa.block ≠ w.heap.size; omega) _) hb3 (by omega)
  have F3 : w3.cell? ⟨0, 0, none⟩ = some (.slice (some fa) 12 fc) := (hb3.cell (p := ⟨0, 0, none⟩) (by show 0 < w2.heap.size; omega)).trans ((cell_setCell_far (by show 0 ≠ w.heap.size; omega) _).trans F2)
  clear S2 LC2 LF2 F2 k02 hb3 hB2 hB1
  go_wp2_with fail
  go_region_held3 (fun w' => w'.cell? ⟨g3, 0, none⟩ = some (.slice (some ⟨f3, 0, none⟩) (31 + m) cap3))
    (first
      | exact keep_drew hcell3
      | assumption)
    (first
      | (go_at_call 9; refine (frame_any v 2 peer ad m c (cu8 L) fa fc (cu8 FL) _ h0 h1 (by omega) (by omega) (by omega) (by omega) (by rw [cu8_length]; exact HL.out) (LiesAt.drew LC3.out) (cu8_one _) (keep_drew F3) (by rw [cu8_length]; exact HFl.out) (LiesAt.drew LF3.out) (cu8_one _) (by show fa.block < w3.heap.size; omega)).mono ?_; rintro e w4 ⟨g4, cap4, rfl, hw4own, hw4b⟩; rw [frameI_cells] at hw4own; have hw4c : w4.cell? ⟨g3, 0, none⟩ = some (.slice (some ⟨f3, 0, none⟩) (31 + m) cap3) := (hw4b.cell (p := ⟨g3, 0, none⟩) (by show g3 < w3.heap.size; omega)).trans hcell3)
      | (go_at_call 8; refine (equal_true f3 (31 + m) cap3 g4 cap4 (frameI v peer 2 m FL L) _ (by rw [frameI_length _ _ _ _ _ _ HFl.out]; have := HL.out; omega) (LiesAt.below (LiesAt.drew (lies_of_owns hown3)) hw4b hf3.2) (lies_of_owns hw4own)).mono ?_; rintro e w' ⟨rfl, hw⟩; subst w'))
  have hw4b' : Below w3.heap.size w3 w4 := ((Below.refl _ _).drew).trans hw4b
  clear hw4own hw4c hcell3 F3 hown3
  go_wp2
  go_ret
  exact ⟨rfl, hB3.trans (hw4b'.mono hz3)⟩

set_option maxRecDepth 100000 in
set_option maxHeartbeats 1600000 in
theorem act_seven_t (v sel : Int) (peer : Bool) (ad : Addr) (m c : Nat) (L : List Int) (fa : Addr) (fc : Nat) (FL : List Int) (w : World) (h0 : 0 ≤ v) (h1 : v < 65536) (hs0 : 0 ≤ sel) (hs1 : sel ≤ 255) (hst : sel % 10 = 7) (hm : 1 ≤ m) (hm2 : m ≤ 20)
    (hl : L.length = m) (hc : LiesAt w ad (cu8 L)) (hab : ad.block < w.heap.size) (hF : w.cell? ⟨0, 0, none⟩ = some (.slice (some fa) 12 fc)) (hFl : FL.length = 12) (hFc : LiesAt w fa (cu8 FL)) (hfb : fa.block < w.heap.size) :
    Calls Ybaf.prog 3 #[.int .u16 v, .bool peer, .slice (some ad) m c, .int .u8 sel, .bool true] w fun e w' => e = .returned (.bool true) ∧ Below w.heap.size w w' := by
  have HC : Hid (LiesAt w ad (cu8 L)) := hc
  have HL : Hid (L.length = m) := hl
  have HFl : Hid (FL.length = 12) := hFl
  have HFc : Hid (LiesAt w fa (cu8 FL)) := hFc
  have hw0 := World.block_lt_of_cell? w _ hF
  have hl0 : ((m : Int) == 0) = false := beq_eq_false_iff_ne.2 (by omega)
  have hl2 : decide ((20 : Int) < (m : Int)) = false := decide_eq_false (by omega)
  have e51 := fun (w : World) (a : Option Addr) (n c : Nat) => Lib.run_eql_slice_nil (P := Ybaf.prog) w 51 23 a n c 0 0 Ybaf.underlying51
  clear hc hl hFl hFc
  go_enter Ybaf.func3, Ybaf.ntmps3
  go_wp2_with (first
    | (go_at_call 5; refine (add_any _).mono ?_; rintro e w' ⟨rfl, rfl⟩)
    | (go_at_call 6; go_in))
  have hS := stageW_stage w v peer 7 2
  have hB := stageW_below w v peer 7 2
  have hZ := stageW_size w v peer 7 2
  have C1 := sub_active _ _ _ _ _ 0 v peer ad m c (cu8 L) fa fc (cu8 FL) _ h0 h1 (by omega) (by omega) hm hm2 hS (by omega) (by omega) (by omega) (by rw [cu8_length]; exact HL.out) (LiesAt.below HC.out hB hab) (cu8_one _) ((hB.cell hw0).trans hF) (by rw [cu8_length]; exact HFl.out) (LiesAt.below HFc.out hB hfb) (cu8_one _) (by omega)
  refine Calls.mono (by exact C1) ?_
  clear C1
  rintro e w1 ⟨g1, f1, cap1, rfl, hcell1, hge1, hlt1, hown1, hb1⟩
  generalize hW : stageW w v peer 7 2 = W0 at *
  clear hW
  rw [frameI_cells, show (0 : Int) + 1 = 1 from rfl] at hown1
  have S1 := (hS.set (by omega) (by omega) (by omega) (by omega) 1).below (w1 := w1) (by simpa using hb1)
  clear hS
  have hk0 := S1.k0
  have hk1 := S1.k1
  have HS : Hid (Stage w1 (w.heap.size + 1 + 1) w.heap.size (w.heap.size + 1) (w.heap.size + 1 + 1 + 1 + 1) (w.heap.size + 1 + 1 + 1) 1 v 7 peer) := S1
  have hB1 : Below w.heap.size w w1 := (hB.setCell (p := ⟨w.heap.size, 8, none⟩) (Nat.le_refl _) _).trans (hb1.mono (by omega))
  have h23 := lies_cell (lies_of_owns hown1) 23 (frameI_23 v peer 1 m FL L HFl.out)
  have hf1 := owns_block_lt hown1
  have hg1 : w.heap.size + 5 ≤ g1 := by omega
  have hz1 := hB1.size
  have LC1 : Hid (LiesAt w1 ad (cu8 L)) := LiesAt.below HC.out hB1 hab
  have LF1 : Hid (LiesAt w1 fa (cu8 FL)) := LiesAt.below HFc.out hB1 hfb
  have F1 : w1.cell? ⟨0, 0, none⟩ = some (.slice (some fa) 12 fc) := (hB1.cell hw0).trans hF
  clear S1 hb1 hB HC HFc hF
  go_wp2_with fail
  go_region_held3 (fun w' => w'.cell? ⟨g1, 0, none⟩ = some (.slice (some ⟨f1, 0, none⟩) (31 + m) cap1))
    (first
      | exact keep_drew hcell1
      | assumption)
    (first
      | (go_at_call 9; refine (frame_any v 1 peer ad m c (cu8 L) fa fc (cu8 FL) _ h0 h1 (by omega) (by omega) (by omega) (by omega) (by rw [cu8_length]; exact HL.out) (LiesAt.drew LC1.out) (cu8_one _) (keep_drew F1) (by rw [cu8_length]; exact HFl.out) (LiesAt.drew LF1.out) (cu8_one _) (by show fa.block < w1.heap.size; omega)).mono ?_; rintro e w2 ⟨g2, cap2, rfl, hw2own, hw2b⟩; rw [frameI_cells] at hw2own; have hw2c : w2.cell? ⟨g1, 0, none⟩ = some (.slice (some ⟨f1, 0, none⟩) (31 + m) cap1) := (hw2b.cell (p := ⟨g1, 0, none⟩) (by show g1 < w1.heap.size; omega)).trans hcell1)
      | (go_at_call 8; refine (equal_true f1 (31 + m) cap1 g2 cap2 (frameI v peer 1 m FL L) _ (by rw [frameI_length _ _ _ _ _ _ HFl.out]; have := HL.out; omega) (LiesAt.below (LiesAt.drew (lies_of_owns hown1)) hw2b hf1.2) (lies_of_owns hw2own)).mono ?_; rintro e w' ⟨rfl, hw⟩; subst w'))
  have hw2b' : Below w1.heap.size w1 w2 := ((Below.refl _ _).drew).trans hw2b
  have S2 := HS.out.below hw2b'
  have hB2 : Below w.heap.size w w2 := hB1.trans (hw2b'.mono hz1)
  have hz2 := hw2b'.size
  have k02 := S2.k0
  have hz2w : w.heap.size ≤ w2.heap.size := by omega
  have LC2 : Hid (LiesAt w2 ad (cu8 L)) := LiesAt.below LC1.out hw2b' (by omega)
  have LF2 : Hid (LiesAt w2 fa (cu8 FL)) := LiesAt.below LF1.out hw2b' (by omega)
  have F2 : w2.cell? ⟨0, 0, none⟩ = some (.slice (some fa) 12 fc) := (hw2b'.cell (p := ⟨0, 0, none⟩) (by show 0 < w1.heap.size; omega)).trans F1
  clear hw2b hw2b' HS LC1 LF1 F1 hcell1 h23 hk0 hk1 hw2own hown1 hw2c hZ hge1
  go_wp2_with fail
  have C2 := sub_active _ _ _ _ _ 1 v peer ad m c (cu8 L) fa fc (cu8 FL) _ h0 h1 (by omega) (by omega) hm hm2 S2 (by omega) (by omega) (by omega) (by rw [cu8_length]; exact HL.out) LC2.out (cu8_one _) F2 (by rw [cu8_length]; exact HFl.out) LF2.out (cu8_one _) (by omega)
  refine Calls.mono (by exact C2) ?_
  clear C2
  rintro e w3 ⟨g3, f3, cap3, rfl, hcell3, hge3, hlt3, hown3, hb3⟩
  rw [frameI_cells, show (1 : Int) + 1 = 2 from rfl] at hown3
  have hB3 : Below w.heap.size w w3 := (hB2.setCell (p := ⟨w.heap.size, 8, none⟩) (Nat.le_refl _) _).trans (hb3.mono hz2w)
  have hz3 := hB3.size
  have hf3 := owns_block_lt hown3
  have LC3 : Hid (LiesAt w3 ad (cu8 L)) := LiesAt.below (LC2.out.setCell (by show ad.block ≠ w.heap.size; omega) _) hb3 (by omega)
  have LF3 : Hid (LiesAt w3 fa (cu8 FL)) := LiesAt.below (LF2.out.setCell (by show fa.block ≠ w.heap.size; omega) _) hb3 (by omega)
  have F3 : w3.cell? ⟨0, 0, none⟩ = some (.slice (some fa) 12 fc) := (hb3.cell (p := ⟨0, 0, none⟩) (by show 0 < w2.heap.size; omega)).trans ((cell_setCell_far (by show 0 ≠ w.heap.size; omega) _).trans F2)
  clear S2 LC2 LF2 F2 k02 hb3 hB2 hB1
  go_wp2_with fail
  go_region_held3 (fun w' => w'.cell? ⟨g3, 0, none⟩ = some (.slice (some ⟨f3, 0, none⟩) (31 + m) cap3))
    (first
      | exact keep_drew hcell3
      | assumption)
    (first
      | (go_at_call 9; refine (frame_any v 2 peer ad m c (cu8 L) fa fc (cu8 FL) _ h0 h1 (by omega) (by omega) (by omega) (by omega) (by rw [cu8_length]; exact HL.out) (LiesAt.drew LC3.out) (cu8_one _) (keep_drew F3) (by rw [cu8_length]; exact HFl.out) (LiesAt.drew LF3.out) (cu8_one _) (by show fa.block < w3.heap.size; omega)).mono ?_; rintro e w4 ⟨g4, cap4, rfl, hw4own, hw4b⟩; rw [frameI_cells] at hw4own; have hw4c : w4.cell? ⟨g3, 0, none⟩ = some (.slice (some ⟨f3, 0, none⟩) (31 + m) cap3) := (hw4b.cell (p := ⟨g3, 0, none⟩) (by show g3 < w3.heap.size; omega)).trans hcell3)
      | (go_at_call 8; refine (equal_true f3 (31 + m) cap3 g4 cap4 (frameI v peer 2 m FL L) _ (by rw [frameI_length _ _ _ _ _ _ HFl.out]; have := HL.out; omega) (LiesAt.below (LiesAt.drew (lies_of_owns hown3)) hw4b hf3.2) (lies_of_owns hw4own)).mono ?_; rintro e w' ⟨rfl, hw⟩; subst w'))
  have hw4b' : Below w3.heap.size w3 w4 := ((Below.refl _ _).drew).trans hw4b
  clear hw4own hw4c hcell3 F3 hown3
  go_wp2
  go_ret
  exact ⟨rfl, hB3.trans (hw4b'.mono hz3)⟩
end Go.Proofs.YbulkjsmFmt

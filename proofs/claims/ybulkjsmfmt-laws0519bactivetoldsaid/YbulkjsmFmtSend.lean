import Derived.Test.YbulkjsmFmtFacil
import Derived.Test.YbulkjsmFmtInvoke
namespace Go.Proofs.YbulkjsmFmt
open Go.RowKit
attribute [local go_sem ↓] Go.wp_at_zero Go.wp_at_succ

set_option maxRecDepth 100000 in
set_option maxHeartbeats 1600000 in
theorem send_any (be cb lb : Nat) (id v : Int) (peer : Bool) (ad : Addr) (m c : Nat) (news : List Value) (fa : Addr) (fc : Nat) (FH : List Value) (w : World) (h0 : 0 ≤ v) (h1 : v < 65536) (hi0 : 0 ≤ id) (hi1 : id ≤ 100) (hm : 0 < m) (hm2 : m ≤ 180)
    (hcs : w.cell? ⟨be, 0, none⟩ = some (.pointer (some ⟨cb, 0, none⟩)))
    (hinv : w.cell? ⟨cb, 7, none⟩ = some (.slice none 0 0)) (hlast : w.cell? ⟨cb, 8, none⟩ = some (.int .i64 id)) (hfz : w.frozen? ⟨cb, 8, none⟩ = false)
    (hl0 : w.cell? ⟨lb, 0, none⟩ = some (.int .u16 v)) (hl1 : w.cell? ⟨lb, 1, none⟩ = some (.bool peer)) (hlc : lb ≠ cb) (h0c : 0 ≠ cb) (hac : ad.block ≠ cb) (hfcb : fa.block ≠ cb)
    (hl : news.length = m) (hc : LiesAt w ad news) (hone : ∀ u ∈ news, u.oneCell' = true) (hF : w.cell? ⟨0, 0, none⟩ = some (.slice (some fa) 12 fc)) (hFl : FH.length = 12) (hFc : LiesAt w fa FH) (hFone : ∀ u ∈ FH, u.oneCell' = true)
    (hfb : fa.block < w.heap.size) :
    Calls Ybaf.prog 12 #[.pointer (some ⟨be, 0, none⟩), .pointer (some ⟨lb, 0, none⟩), .int .u8 14, .slice (some ad) m c] w fun e w' => ∃ g gf cap, e = .returned (.slice (some ⟨g, 0, none⟩) 1 1) ∧ w'.cell? ⟨g, 0, none⟩ = some (.slice (some ⟨gf, 0, none⟩) (27 + m) cap) ∧ w.heap.size ≤ g ∧ g < w'.heap.size ∧
      w'.ownsRow w.heap.size 5 1 (.slice (some ⟨gf, 0, none⟩) (27 + m) cap) (27 + m) ([.int .u8 8, .int .u8 2, .int .u8 (first v peer), .int .u8 (v % 256), .int .u8 98, .int .u8 28, .int .u8 (20 + m)] ++ FH ++
        ([.int .u8 161, .int .u8 (6 + m), .int .u8 2, .int .u8 1, .int .u8 (id + 1), .int .u8 2, .int .u8 1, .int .u8 14] ++ news)) ∧
      Below w.heap.size (w.setCell ⟨cb, 8, none⟩ (.int .i64 (id + 1))) w' := by
  have HC : Hid (LiesAt (w.setCell ⟨cb, 8, none⟩ (.int .i64 (id + 1))) ad news) := hc.setCell hac _
  have HL : Hid (news.length = m) := hl
  have HFl : Hid (FH.length = 12) := hFl
  have HFc : Hid (LiesAt (w.setCell ⟨cb, 8, none⟩ (.int .i64 (id + 1))) fa FH) := hFc.setCell hfcb _
  have hw0 := World.block_lt_of_cell? w _ hF
  have hlb := World.block_lt_of_cell? w _ hl0
  have k0 : (w.setCell ⟨cb, 8, none⟩ (.int .i64 (id + 1))).cell? ⟨lb, 0, none⟩ = some (.int .u16 v) := (cell_setCell_far hlc _).trans hl0
  have k1 : (w.setCell ⟨cb, 8, none⟩ (.int .i64 (id + 1))).cell? ⟨lb, 1, none⟩ = some (.bool peer) := (cell_setCell_far hlc _).trans hl1
  have kF : (w.setCell ⟨cb, 8, none⟩ (.int .i64 (id + 1))).cell? ⟨0, 0, none⟩ = some (.slice (some fa) 12 fc) := (cell_setCell_far h0c _).trans hF
  have hsz0 : (w.setCell ⟨cb, 8, none⟩ (.int .i64 (id + 1))).heap.size = w.heap.size := by simp
  clear hc hl hFl hFc hl0 hl1 hF
  go_enter Ybaf.func12, Ybaf.ntmps12
  go_wp2_with (go_at_call 17; refine (invoke_any cb id _ hi0 hi1 (by assumption) (by assumption) (by assumption)).mono ?_; rintro e w' ⟨rfl, rfl⟩)
  clear hcs hinv hlast hfz
  generalize hW : w.setCell ⟨cb, 8, none⟩ (.int .i64 (id + 1)) = W at *
  have HW : Hid (w.setCell ⟨cb, 8, none⟩ (.int .i64 (id + 1)) = W) := hW
  clear hW
  have hsz : Hid (W.heap.size = w.heap.size) := hsz0
  have hlbW : lb < W.heap.size := by rw [hsz0]; exact hlb
  have hw0W : 0 < W.heap.size := by rw [hsz0]; exact hw0
  have hfbW : fa.block < W.heap.size := by rw [hsz0]; exact hfb
  clear hsz0 hlb hw0 hfb
  go_region_held3 (fun w' => w'.cell? ⟨lb, 0, none⟩ = some (.int .u16 v) ∧ w'.cell? ⟨lb, 1, none⟩ = some (.bool peer))
    (first
      | ((refine ⟨keep_drew (keep_alloc k0 _), keep_drew (keep_alloc k1 _)⟩))
      | ((refine ⟨by assumption, by assumption⟩))
      | ((refine ⟨keep_alloc (by assumption) _, keep_alloc (by assumption) _⟩)))
    (first
      | (go_at_call 19; refine (comp_any (id + 1) 14 ad m c news _ (by omega) (by omega) hm (by omega) HL.out (LiesAt.drew (HC.out.alloc _)) hone).mono ?_; rintro e w2 ⟨g2, cap2, rfl, hown2, hb2⟩; have hz2 := hb2.size; have kk0 : w2.cell? ⟨lb, 0, none⟩ = some (.int .u16 v) := (hb2.cell (p := ⟨lb, 0, none⟩) (by simp; omega)).trans (keep_drew (keep_alloc k0 _)); have kk1 : w2.cell? ⟨lb, 1, none⟩ = some (.bool peer) := (hb2.cell (p := ⟨lb, 1, none⟩) (by simp; omega)).trans (keep_drew (keep_alloc k1 _)))
      | (go_at_call 18; refine (facility_any v peer ⟨g2, 0, none⟩ (8 + m) cap2 _ fa fc FH _ h0 h1 (by omega) (by omega) (by have := HL.out; simp; omega) (lies_of_owns hown2) (one_comp _ _ _ _ _ _ _ _ hone) ((hb2.cell (p := ⟨0, 0, none⟩) (by simp)).trans (keep_drew (keep_alloc kF _))) HFl.out (LiesAt.below (LiesAt.drew (HFc.out.alloc _)) hb2 (by simp; omega)) hFone (owns_block_lt hown2).2 (by simp at hz2; omega)).mono ?_; rintro e w3 ⟨g3, cap3, rfl, hown3, hb3⟩; have hz3 := hb3.size; have kk0 : w3.cell? ⟨lb, 0, none⟩ = some (.int .u16 v) := (hb3.cell (p := ⟨lb, 0, none⟩) (by simp at hz2 ⊢; omega)).trans kk0; have kk1 : w3.cell? ⟨lb, 1, none⟩ = some (.bool peer) := (hb3.cell (p := ⟨lb, 1, none⟩) (by simp at hz2 ⊢; omega)).trans kk1))
  clear kk0 kk1
  go_wp2
  go_ret
  have hs := hsz.out
  have e1 : 19 + (8 + m) = 27 + m := by omega
  have e2 : 12 + ((8 + m : Nat) : Int) = 20 + (m : Int) := by omega
  rw [e1, e2] at hown3
  rw [HW.out, e1]
  simp at hz2
  refine ⟨w3.heap.size, g3, cap3, rfl, by simp, by omega, by simp, World.ownsRow.alloc (owns_base hown3 (by omega)) _, ?_⟩
  rw [← hs]
  exact (((((Below.refl _ _).alloc (Nat.le_refl _) _).drew).trans (hb2.mono (by simp))).trans (hb3.mono (by omega))).alloc (by omega) _
end Go.Proofs.YbulkjsmFmt

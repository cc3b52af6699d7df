import Derived.Test.YbulkjsmFmtLeafs
import Derived.Deep.RegionHeld3
import Derived.Deep.DrawnRows
namespace Go.Proofs.YbulkjsmFmt
open Go.RowKit
attribute [local go_sem ↓] Go.wp_at_zero Go.wp_at_succ

theorem keep_alloc {w : World} {a : Addr} {v : Value} (h : w.cell? a = some v) (o : Obj) : (w.alloc o).cell? a = some v := (World.grownBy_alloc w o none).cell h (by simp)
theorem keep_drew {w : World} {a : Addr} {v : Value} (h : w.cell? a = some v) : w.drew.cell? a = some v := h

set_option maxRecDepth 100000 in
set_option maxHeartbeats 1600000 in
theorem facility_any (v : Int) (peer : Bool) (ad : Addr) (m c : Nat) (news : List Value) (fa : Addr) (fc : Nat) (FH : List Value) (w : World) (h0 : 0 ≤ v) (h1 : v < 65536) (hm : 0 < m) (hm2 : m ≤ 200)
    (hl : news.length = m) (hc : LiesAt w ad news) (hone : ∀ u ∈ news, u.oneCell' = true) (hF : w.cell? ⟨0, 0, none⟩ = some (.slice (some fa) 12 fc)) (hFl : FH.length = 12) (hFc : LiesAt w fa FH) (hFone : ∀ u ∈ FH, u.oneCell' = true) (hab : ad.block < w.heap.size) (hfb : fa.block < w.heap.size) :
    Calls Ybaf.prog 18 #[.agg #[.int .u16 v, .bool peer], .slice (some ad) m c] w fun e w' => ∃ g cap, e = .returned (.slice (some ⟨g, 0, none⟩) (19 + m) cap) ∧
      w'.ownsRow w.heap.size 5 1 (.slice (some ⟨g, 0, none⟩) (19 + m) cap) (19 + m) ([.int .u8 8, .int .u8 2, .int .u8 (first v peer), .int .u8 (v % 256), .int .u8 98, .int .u8 28, .int .u8 (12 + m)] ++ FH ++ news) ∧ Below w.heap.size w w' := by
  have HC : Hid (LiesAt w ad news) := hc
  have HL : Hid (news.length = m) := hl
  have HFl : Hid (FH.length = 12) := hFl
  have HFc : Hid (LiesAt w fa FH) := hFc
  have hw0 := World.block_lt_of_cell? w _ hF
  have hnn := World.new_ne w _ hF
  have hne : ¬ (0 = w.heap.size) := by simp at hw0; omega
  have hwr : IntKind.i64.wrap (12 + (m : Int)) = 12 + (m : Int) := IntWalk.i64_in _ (by omega)
  have hwr2 : IntKind.u8.wrap (12 + (m : Int)) = 12 + (m : Int) := IntWalk.u8_in _ (by omega)
  clear hc hl hFl hFc
  go_enter Ybaf.func18, Ybaf.ntmps18
  go_wp2_with fail
  go_region_held3 (fun w' => w'.cell? ⟨w.heap.size, 0, none⟩ = some (.int .u16 v) ∧ w'.cell? ⟨w.heap.size, 1, none⟩ = some (.bool peer) ∧ w'.cell? ⟨0, 0, none⟩ = some (.slice (some fa) 12 fc))
    (first
      | ((refine ⟨?_, ?_, ?_⟩; (go_keep); (go_keep); (repeat (first | (with_reducible assumption) | (with_reducible refine keep_drew ?_) | (with_reducible refine keep_alloc ?_ _)))))
      | ((refine ⟨hg1.cell ?_ (by simp [Value.ownBlock]; try omega), hg1.cell ?_ (by simp [Value.ownBlock]; try omega), hg1.cell ?_ (by simp [Value.ownBlock]; try omega)⟩; (go_keep); (go_keep); (repeat (first | (with_reducible assumption) | (with_reducible refine keep_drew ?_) | (with_reducible refine keep_alloc ?_ _))))))
    (first
      | (go_at_call 24; refine (header_any v 98 peer _ h0 h1).mono ?_; rintro e w' ⟨rfl, rfl⟩)
      | ((refine app_step (by rfl) (.tmp 7) (.tmp 14) (by rfl) w.heap.size (.slice (some ⟨w.heap.size + 1 + 1 + 1, 0, none⟩) 5 5) 5 [.int .u8 8, .int .u8 2, .int .u8 (first v peer), .int .u8 (v % 256), .int .u8 98] (by rfl) (owns_drew (owns_at _ (w.heap.size + 1 + 1 + 1) (by simp) w.heap.size 5 [.int .u8 8, .int .u8 2, .int .u8 (first v peer), .int .u8 (v % 256), .int .u8 98] 5 rfl (by omega) (by decide))) ⟨w.heap.size + 1, 0, none⟩ 2 2 [.int .u8 28, .int .u8 (12 + m)] (by rfl) (by rfl) (LiesAt.drew (LiesAt.alloc (LiesAt.alloc (lies_at _ _ (by simp) 5 _) _) _)) (one_ints2 _ _) (by omega) (by omega) (by simp; omega) ?_; intro g1 cap1 w1 hown1 hg1 hat1 hlt1))
      | ((refine app_step (by rfl) (.tmp 7) (.tmp 14) (by rfl) w.heap.size (.slice (some ⟨w.heap.size + 1 + 1, 0, none⟩) 5 5) 5 [.int .u8 8, .int .u8 2, .int .u8 (first v peer), .int .u8 (v % 256), .int .u8 98] (by rfl) (owns_drew ((owns_at _ (w.heap.size + 1 + 1) (by simp) w.heap.size 5 [.int .u8 8, .int .u8 2, .int .u8 (first v peer), .int .u8 (v % 256), .int .u8 98] 5 rfl (by omega) (by decide)).alloc _)) ⟨w.heap.size + 1 + 1 + 1, 0, none⟩ 2 2 [.int .u8 28, .int .u8 (12 + m)] (by rfl) (by rfl) (LiesAt.drew (lies_at _ _ (by simp) 5 _)) (one_ints2 _ _) (by omega) (by omega) (by simp; omega) ?_; intro g1 cap1 w1 hown1 hg1 hat1 hlt1)))
  all_goals
    have hb1 : Below w.heap.size w w1 := Below.grown (by go_grown) hg1 (by simp; omega) (fun k hk => by simp [Value.ownBlock] at hk; omega)
    have hz1 := hb1.size
    have HF1 : Hid (LiesAt w1 fa FH) := LiesAt.below HFc.out hb1 hfb
    have hF1 : w1.cell? ⟨0, 0, none⟩ = some (.slice (some fa) 12 fc) := (hb1.cell hw0).trans hF
    clear hg1 hat1
    go_wp2_with (first
      | (at_builtin; refine app rfl (.tmp 16) (.tmp 17) (by rfl) w.heap.size _ 7 _ (by rfl) hown1 fa 12 fc FH (by rfl) HFl.out HF1.out hFone (by omega) (by omega) hz1 ?_; intro g2 cap2 w2 hown2 hg2 hat2 hlt2; have hb2 : Below w.heap.size w w2 := Below.grown hb1 hg2 hz1 (fun k hk => by simp [Value.ownBlock] at hk; subst hk; exact (owns_block_lt hown1).1); have hz2 := hb2.size; have HC2 : Hid (LiesAt w2 ad news) := LiesAt.below HC.out hb2 hab; clear hg2 hat2 hF1 HF1)
      | (at_builtin; refine app rfl (.tmp 19) (.tmp 20) (by rfl) w.heap.size _ 19 _ (by rfl) hown2 ad m c news (by rfl) HL.out HC2.out hone hm (by omega) hz2 ?_; intro g3 cap3 w3 hown3 hg3 hat3 hlt3; have hb3 : Below w.heap.size w w3 := Below.grown hb2 hg3 hz2 (fun k hk => by simp [Value.ownBlock] at hk; subst hk; exact (owns_block_lt hown2).1); clear hg3 hat3))
    go_ret
    exact ⟨g3, cap3, rfl, by simpa using hown3, hb3⟩
end Go.Proofs.YbulkjsmFmt

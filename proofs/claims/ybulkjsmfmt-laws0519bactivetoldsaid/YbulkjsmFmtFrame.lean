import Derived.Test.YbulkjsmFmtLeafs
namespace Go.Proofs.YbulkjsmFmt
open Go.RowKit

set_option maxRecDepth 100000 in
set_option maxHeartbeats 1600000 in
theorem frame_any (v id : Int) (peer : Bool) (ad : Addr) (m c : Nat) (news : List Value) (fa : Addr) (fc : Nat) (FH : List Value) (w : World) (h0 : 0 ≤ v) (h1 : v < 65536) (hid : 0 ≤ id) (hid2 : id ≤ 127) (hm : 0 < m) (hm2 : m ≤ 100)
    (hl : news.length = m) (hc : LiesAt w ad news) (hone : ∀ u ∈ news, u.oneCell' = true) (hF : w.cell? ⟨0, 0, none⟩ = some (.slice (some fa) 12 fc)) (hFl : FH.length = 12) (hFc : LiesAt w fa FH) (hFone : ∀ u ∈ FH, u.oneCell' = true)
    (hfb : fa.block < w.heap.size) :
    Calls Ybaf.prog 9 #[.int .u16 v, .bool peer, .int .i64 id, .slice (some ad) m c] w fun e w' => ∃ g cap, e = .returned (.slice (some ⟨g, 0, none⟩) (31 + m) cap) ∧
      w'.ownsRow w.heap.size 5 1 (.slice (some ⟨g, 0, none⟩) (31 + m) cap) (31 + m) ([.int .u8 8, .int .u8 2, .int .u8 (first v peer), .int .u8 (v % 256), .int .u8 98, .int .u8 28, .int .u8 (24 + m)] ++ FH ++
        ([.int .u8 161, .int .u8 (10 + m), .int .u8 2, .int .u8 1, .int .u8 id, .int .u8 2, .int .u8 1, .int .u8 14] ++ ([.int .u8 48, .int .u8 (2 + m), .int .u8 4, .int .u8 m] ++ news))) ∧ Below w.heap.size w w' := by
  have HC : Hid (LiesAt w ad news) := hc
  have HL : Hid (news.length = m) := hl
  have HFl : Hid (FH.length = 12) := hFl
  have HFc : Hid (LiesAt w fa FH) := hFc
  have hw0 := World.block_lt_of_cell? w _ hF
  clear hc hl hFl hFc
  cases peer
  all_goals
    go_enter Ybaf.func9, Ybaf.ntmps9
    go_wp2_with (first
      | (at_builtin; refine app rfl (.tmp 27) (.tmp 28) (by rfl) w.heap.size _ 4 [.int .u8 48, .int .u8 (2 + m), .int .u8 4, .int .u8 m] (by rfl) (owns_new w w.heap.size 5 _ 4 rfl (Nat.le_refl _) (by decide)) ad m c news (by rfl) HL.out (HC.out.alloc _) hone hm (by omega) (by simp) ?_; intro g1 cap1 w1 hown1 hg1 hat1 hlt1; have hb1 : Below w.heap.size w w1 := Below.grown (by go_grown) hg1 (by simp) (fun k hk => by simp [Value.ownBlock] at hk; omega); have hz1 := hb1.size; have HF1 : Hid (LiesAt w1 fa FH) := LiesAt.below HFc.out hb1 hfb; have hF1 : w1.cell? ⟨0, 0, none⟩ = some (.slice (some fa) 12 fc) := (hb1.cell hw0).trans hF; have hgb1 := (owns_block_lt hown1).1; have hp1 : 0 < w1.heap.size := (by simp at hw0; omega); clear hg1 hat1)
      | (at_builtin; refine app rfl (.tmp 37) (.tmp 38) (by rfl) w.heap.size _ 8 _ (by rfl) (owns_new w1 w.heap.size 5 _ 8 rfl hz1 (by decide)) ⟨g1, 0, none⟩ (4 + m) cap1 ([.int .u8 48, .int .u8 (2 + m), .int .u8 4, .int .u8 m] ++ news) (by rfl) (by have := HL.out; simp; omega) ((lies_of_owns hown1).alloc _) (one_cons4 _ _ _ _ hone) (by omega) (by omega) (by simp; omega) ?_; intro g2 cap2 w2 hown2 hg2 hat2 hlt2; have hb2 : Below w1.heap.size w1 w2 := Below.grown (by go_grown) hg2 (by simp) (fun k hk => by simp [Value.ownBlock] at hk; omega); have hz2 := hb2.size; have HF2 : Hid (LiesAt w2 fa FH) := LiesAt.below HF1.out hb2 (by omega); have hF2 : w2.cell? ⟨0, 0, none⟩ = some (.slice (some fa) 12 fc) := (hb2.cell (by simp at hw0 ⊢; omega)).trans hF1; have hp2 : 0 < w2.heap.size := (by simp at hw0; omega); clear hg2 hat2 hF1 HF1)
      | (at_builtin; refine app rfl (.tmp 50) (.tmp 51) (by rfl) w.heap.size _ 7 _ (by rfl) (owns_new w2 w.heap.size 5 _ 7 rfl (by omega) (by decide)) fa 12 fc FH (by rfl) HFl.out (HF2.out.alloc _) hFone (by omega) (by omega) (by simp; omega) ?_; intro g3 cap3 w3 hown3 hg3 hat3 hlt3; have hb3 : Below w2.heap.size w2 w3 := Below.grown (by go_grown) hg3 (by simp) (fun k hk => by simp [Value.ownBlock] at hk; omega); have hz3 := hb3.size; have hown2' := owns_below hown2 hb3 hlt2; clear hg3 hat3 hF2 HF2)
      | (at_builtin; refine app rfl (.tmp 53) (.tmp 54) (by rfl) w.heap.size _ 19 _ (by rfl) hown3 ⟨g2, 0, none⟩ (8 + (4 + m)) cap2 _ (by rfl) (by have := HL.out; simp; omega) (lies_of_owns hown2') (one_comp _ _ _ _ _ _ _ _ (one_cons4 _ _ _ _ hone)) (by omega) (by omega) (by omega) ?_; intro g4 cap4 w4 hown4 hg4 hat4 hlt4; have hb4 : Below w.heap.size w3 w4 := Below.grown (Below.refl _ _) hg4 (by omega) (fun k hk => by simp [Value.ownBlock] at hk; subst hk; exact (owns_block_lt hown3).1); clear hg4 hat4)
      )
    go_ret
    have e1 : 19 + (8 + (4 + m)) = 31 + m := by omega
    have e2 : (12 + (8 + (4 + (m : Int)))) = 24 + (m : Int) := by omega
    have e3 : (6 + (4 + (m : Int))) = 10 + (m : Int) := by omega
    rw [e1, e2, e3] at hown4
    exact ⟨g4, cap4, ret_slice e1, by simpa [first] using hown4, ((hb1.trans (hb2.mono hz1)).trans (hb3.mono (by omega))).trans hb4⟩
end Go.Proofs.YbulkjsmFmt

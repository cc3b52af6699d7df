import Derived.Test.YbulkjucFmtBytes
namespace Go.Proofs.YbulkjucFmt
open Go.RowKit

set_option maxHeartbeats 400000 in
theorem uint1 (v : Int) (base : Nat) (oa : Option Addr) (n cap : Nat) (xs : List Int) (w : World) (h0 : 0 ≤ v) (h1 : v < 256) (hown : w.ownsRow base 5 1 (.slice oa n cap) n (cu8 xs)) (hn : n ≤ 900000) (hb : base ≤ w.heap.size) :
    Calls Ybaf.prog 18 #[.slice oa n cap, .int .u64 v, .int .i64 1] w fun e w' => ∃ oa2 cap2, e = .returned (.slice oa2 (n + 1) cap2) ∧
      w'.ownsRow base 5 1 (.slice oa2 (n + 1) cap2) (n + 1) (cu8 (xs ++ [v])) ∧ Grew w w' oa oa2 := by
  have hz : v / 256 = 0 := by omega
  go_enter Ybaf.func18, Ybaf.ntmps18
  go_wp2_with fail
  refine wp_loop_rounds 2 ?_
  rw [rounds_succ]
  go_wp2_with (first
    | (at_builtin; refine app8 rfl (.tmp 42) (.tmp 48) (by rfl) base oa n cap xs (by rfl) (hown.alloc _) (some ⟨w.heap.size, 0, none⟩) 1 1 [v] (by rfl) (src_new w 5 [.int .u8 v] 1 1 1 rfl) (by omega) (by simp; omega) ?_; intro oa2 cap2 w2 hown2 hg2))
  rw [rounds_succ]
  go_wp2_with fail
  go_ret
  exact ⟨oa2, cap2, rfl, hown2, (Grew.alloc w _ oa).trans hg2⟩

set_option maxHeartbeats 400000 in
theorem uint2 (v : Int) (base : Nat) (oa : Option Addr) (n cap : Nat) (xs : List Int) (w : World) (h0 : 0 ≤ v) (h1 : v < 65536) (hown : w.ownsRow base 5 1 (.slice oa n cap) n (cu8 xs)) (hn : n ≤ 900000) (hb : base ≤ w.heap.size) :
    Calls Ybaf.prog 18 #[.slice oa n cap, .int .u64 v, .int .i64 2] w fun e w' => ∃ oa2 cap2, e = .returned (.slice oa2 (n + 2) cap2) ∧
      w'.ownsRow base 5 1 (.slice oa2 (n + 2) cap2) (n + 2) (cu8 (xs ++ [v / 256, v % 256])) ∧ Grew w w' oa oa2 := by
  have hz : v / 65536 = 0 := by omega
  go_enter Ybaf.func18, Ybaf.ntmps18
  go_wp2_with fail
  refine wp_loop_rounds 3 ?_
  rw [rounds_succ]
  go_wp2_with (first
    | (at_builtin; refine app8 rfl (.tmp 42) (.tmp 48) (by rfl) base oa n cap xs (by rfl) (hown.alloc _) (some ⟨w.heap.size, 0, none⟩) 1 1 [v / 256] (by rfl) (src_new w 5 [.int .u8 (v / 256)] 1 1 1 rfl) (by omega) (by simp; omega) ?_; intro oa2 cap2 w2 hown2 hg2; have hs2 := hg2.size; simp at hs2))
  rw [rounds_succ]
  go_wp2_with (first
    | (at_builtin; refine app8 rfl (.tmp 42) (.tmp 48) (by rfl) base oa2 (n + 1) cap2 _ (by rfl) (hown2.alloc _) (some ⟨w2.heap.size, 0, none⟩) 1 1 [v % 256] (by rfl) (src_new w2 5 [.int .u8 (v % 256)] 1 1 1 rfl) (by omega) (by simp; omega) ?_; intro oa3 cap3 w3 hown3 hg3))
  rw [rounds_succ]
  go_wp2_with fail
  go_ret
  refine ⟨oa3, cap3, rfl, ?_, (((Grew.alloc w _ oa).trans hg2).trans (Grew.alloc _ _ _)).trans hg3⟩
  simpa using hown3

set_option maxHeartbeats 400000 in
theorem uint3 (v : Int) (base : Nat) (oa : Option Addr) (n cap : Nat) (xs : List Int) (w : World) (h0 : 0 ≤ v) (h1 : v < 16777216) (hown : w.ownsRow base 5 1 (.slice oa n cap) n (cu8 xs)) (hn : n ≤ 900000) (hb : base ≤ w.heap.size) :
    Calls Ybaf.prog 18 #[.slice oa n cap, .int .u64 v, .int .i64 3] w fun e w' => ∃ oa2 cap2, e = .returned (.slice oa2 (n + 3) cap2) ∧
      w'.ownsRow base 5 1 (.slice oa2 (n + 3) cap2) (n + 3) (cu8 (xs ++ [v / 65536, v / 256 % 256, v % 256])) ∧ Grew w w' oa oa2 := by
  have hz : v / 16777216 = 0 := by omega
  go_enter Ybaf.func18, Ybaf.ntmps18
  go_wp2_with fail
  refine wp_loop_rounds 4 ?_
  rw [rounds_succ]
  go_wp2_with (first
    | (at_builtin; refine app8 rfl (.tmp 42) (.tmp 48) (by rfl) base oa n cap xs (by rfl) (hown.alloc _) (some ⟨w.heap.size, 0, none⟩) 1 1 [v / 65536] (by rfl) (src_new w 5 [.int .u8 (v / 65536)] 1 1 1 rfl) (by omega) (by simp; omega) ?_; intro oa2 cap2 w2 hown2 hg2; have hs2 := hg2.size; simp at hs2))
  rw [rounds_succ]
  go_wp2_with (first
    | (at_builtin; refine app8 rfl (.tmp 42) (.tmp 48) (by rfl) base oa2 (n + 1) cap2 _ (by rfl) (hown2.alloc _) (some ⟨w2.heap.size, 0, none⟩) 1 1 [v / 256 % 256] (by rfl) (src_new w2 5 [.int .u8 (v / 256 % 256)] 1 1 1 rfl) (by omega) (by simp; omega) ?_; intro oa3 cap3 w3 hown3 hg3; have hs3 := hg3.size; simp at hs3))
  rw [rounds_succ]
  go_wp2_with (first
    | (at_builtin; refine app8 rfl (.tmp 42) (.tmp 48) (by rfl) base oa3 (n + 1 + 1) cap3 _ (by rfl) (hown3.alloc _) (some ⟨w3.heap.size, 0, none⟩) 1 1 [v % 256] (by rfl) (src_new w3 5 [.int .u8 (v % 256)] 1 1 1 rfl) (by omega) (by simp; omega) ?_; intro oa4 cap4 w4 hown4 hg4))
  rw [rounds_succ]
  go_wp2_with fail
  go_ret
  refine ⟨oa4, cap4, rfl, ?_, (((((Grew.alloc w _ oa).trans hg2).trans (Grew.alloc _ _ _)).trans hg3).trans (Grew.alloc _ _ _)).trans hg4⟩
  simpa using hown4
end Go.Proofs.YbulkjucFmt

import Derived.Test.YbulkjsmFmtLeafs
import Derived.Deep.RegionHeld3
namespace Go.Proofs.YbulkjsmFmt
open Go.RowKit

set_option maxHeartbeats 400000 in
theorem contains_nil (f : Value) (w : World) : Calls Ybaf.prog 22 #[.slice none 0 0, f] w fun e w' => e = .returned (.bool false) ∧ w' = w := by
  go_enter Ybaf.func22, Ybaf.ntmps22
  go_wp2
  go_rounds 1
  go_wp2
  go_ret
  exact ⟨rfl, rfl⟩

set_option maxHeartbeats 400000 in
theorem invoke_any (cb : Nat) (id : Int) (w : World) (h0 : 0 ≤ id) (h1 : id ≤ 100) (hinv : w.cell? ⟨cb, 7, none⟩ = some (.slice none 0 0)) (hlast : w.cell? ⟨cb, 8, none⟩ = some (.int .i64 id)) (hfz : w.frozen? ⟨cb, 8, none⟩ = false) :
    Calls Ybaf.prog 17 #[.pointer (some ⟨cb, 0, none⟩)] w fun e w' => e = .returned (.tuple #[.int .i64 (id + 1), .bool true]) ∧ w' = (w.setCell ⟨cb, 8, none⟩ (.int .i64 (id + 1))).alloc (.cells #[.int .i64 (id + 1)] 3) := by
  have hlt := World.block_lt_of_cell? w _ hlast
  have hne := World.new_ne w _ hlast
  go_enter Ybaf.func17, Ybaf.ntmps17
  go_wp2
  refine wp_loop_rounds 1 ?_
  rw [rounds_succ]
  go_wp2_with (go_at_call 22; refine (contains_nil _ _).mono ?_; rintro e w' ⟨rfl, rfl⟩)
  go_ret2
  exact ⟨rfl, rfl⟩

theorem LiesAt.setCell {w : World} {ad : Addr} {news : List Value} (h : LiesAt w ad news) {p : Addr} (hne : ad.block ≠ p.block) (u : Value) : LiesAt (w.setCell p u) ad news := fun j x hj => by
  rw [World.cell?_of_block (w := w) (Below.heap_setCell w p u _ (by rw [add_block]; exact hne))]
  exact h j x hj
theorem cell_setCell_far {w : World} {a p : Addr} (hne : a.block ≠ p.block) (u : Value) : (w.setCell p u).cell? a = w.cell? a :=
  World.cell?_of_block (w := w) (Below.heap_setCell w p u _ hne)
end Go.Proofs.YbulkjsmFmt

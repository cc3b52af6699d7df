import Derived.Test.YbulkjsmFmtSend
import Derived.LaidEqlPtr
namespace Go.Proofs.YbulkjsmFmt
open Go.RowKit

theorem below_setCell {B : Nat} {w w1 : World} (h : Below B w w1) (p : Addr) (u : Value) : Below B (w.setCell p u) (w1.setCell p u) := by
  refine ⟨h.os, h.tape, h.output, by simpa using h.size, fun k hk => ?_⟩
  have := h.block k hk
  simp only [World.setCell, Array.getElem?_modify]
  split
  · rw [this]
  · exact this

set_option maxRecDepth 100000 in
set_option maxHeartbeats 400000 in
theorem legOf_any (be sb lb kb : Nat) (w : World) (he1 : w.cell? ⟨be, 1, none⟩ = some (.slice (some ⟨sb, 0, none⟩) 1 1)) (hs0 : w.cell? ⟨sb, 0, none⟩ = some (.pointer (some ⟨lb, 0, none⟩)))
    (hl3 : w.cell? ⟨lb, 3, none⟩ = some (.pointer (some ⟨kb, 0, none⟩))) :
    Calls Ybaf.prog 13 #[.pointer (some ⟨be, 0, none⟩), .pointer (some ⟨kb, 0, none⟩)] w fun e w' => e = .returned (.pointer (some ⟨lb, 0, none⟩)) ∧ w' = w := by
  obtain ⟨j36, hj36⟩ := Option.isSome_iff_exists.1 (show (Ybaf.prog.info? 36).isSome = true from by kernel_rfl)
  have epp := run_eql_ptr_same (P := Ybaf.prog) (w := w) ⟨kb, 0, none⟩ Ybaf.underlying25 hj36
  clear hj36
  go_enter Ybaf.func13, Ybaf.ntmps13
  go_wp2
  refine wp_loop_rounds 1 ?_
  rw [rounds_succ]
  go_wp2
  go_ret
  exact ⟨rfl, rfl⟩

set_option maxRecDepth 100000 in
set_option maxHeartbeats 400000 in
theorem add_any (w : World) :
    Calls Ybaf.prog 5 #[.pointer (some ⟨w.heap.size, 0, none⟩)] (w.alloc (.cells #[.pointer none, .pointer none, .pointer none, .pointer none, .pointer none, .pointer none, .pointer none, .slice none 0 0, .int .i64 0] 29)) fun e w' => e = .returned (.tuple #[.pointer (some ⟨w.heap.size + 1, 0, none⟩), .bool true]) ∧
      w' = (w.alloc (.cells #[.pointer (some ⟨w.heap.size + 1, 0, none⟩), .pointer none, .pointer none, .pointer none, .pointer none, .pointer none, .pointer none, .slice none 0 0, .int .i64 0] 29)).alloc (.cells #[.int .i64 1, .int .i64 0, .int .i64 0, .int .i64 0] 36) := by
  have i0 : ∀ w, (Instr.index 26 (.agg #[.pointer none, .pointer none, .pointer none, .pointer none, .pointer none, .pointer none, .pointer none]) (.int .i64 0)).run Ybaf.prog w = .ok (.pointer none) w := fun _ => by kernel_rfl
  go_enter Ybaf.func5, Ybaf.ntmps5
  go_wp2
  refine wp_loop_rounds 1 ?_
  rw [rounds_succ]
  go_wp2
  go_ret2
  exact ⟨rfl, rfl⟩
end Go.Proofs.YbulkjsmFmt

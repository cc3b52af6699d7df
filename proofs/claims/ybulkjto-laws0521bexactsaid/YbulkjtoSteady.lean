import Derived.Test.YbulkjtoMeter
import Derived.BigRegion
namespace Go.Proofs.Ybulkjto
open Go.RowKit
attribute [local go_sem ↓] Go.wp_at_zero Go.wp_at_succ

theorem run_max_lt {P : Program} (w : World) (ts : Array TypeId) (t : TypeId) (x y : Nat) (h : D.order x y = some .lt) : (Builtin.max_ ts t #[.float .f64 x, .float .f64 y]).run P w = .ok (.float .f64 y) w := by
  have h' : FloatKind.f64.format.order x y = some .lt := h
  simp [Builtin.max_, Builtin.max2, h']

set_option maxRecDepth 100000 in
set_option maxHeartbeats 1600000 in
theorem steady_one_low (mb mo kb cap : Nat) (b : Int) (w : World) (hb0 : -2147483648 ≤ b) (hb1 : b < 32768) (hk : w.cell? ⟨mb, mo + 2, Option.none⟩ = some (.slice (some ⟨kb, 0, Option.none⟩) 1 cap))
    (h0 : w.cell? ⟨kb, 0, Option.none⟩ = some (.int .i64 b)) (h1 : w.cell? ⟨kb, 1, Option.none⟩ = some (.int .i64 1000000000)) :
    Calls Yba.prog 15 #[.pointer (some ⟨mb, mo, Option.none⟩)] w fun e w' => e = .returned (.float .f64 (fl b)) ∧ Below w.heap.size w w' := by
  have l0 := World.block_lt_of_cell? w _ hk
  have l1 := World.block_lt_of_cell? w _ h0
  have n0 := World.new_ne w _ hk
  have n1 := World.new_ne w _ h0
  simp at l0 l1 n0 n1
  have o0 : FloatKind.f64.format.order 0 0 = some .eq := by decide
  go_enter Yba.func15, Yba.ntmps15
  go_wp2
  refine wp_loop_rounds 2 ?_
  rw [rounds_succ]
  go_wp2
  refine wp_loop_rounds 2 ?_
  rw [rounds_succ]
  go_wp2
  go_region
  go_wp2
  go_region
  go_wp2
  rw [rounds_succ]
  go_wp2
  go_region
  go_wp2
  go_region
  go_wp2
  rw [rounds_succ]
  go_wp2_with (go_at_call 17; refine (rate_at b 1000000000 4607182418800017408 (fl b) _ sec_one (div_one b (by omega))).mono ?_; rintro e w2 ⟨rfl, hb2⟩)
  go_ret
  exact ⟨rfl, Below.trans (by go_grown) (hb2.mono (by simp; omega))⟩

set_option maxRecDepth 100000 in
set_option maxHeartbeats 1600000 in
theorem steady_one_high (mb mo kb cap : Nat) (b : Int) (w : World) (hb0 : 32768 ≤ b) (hb1 : b < 4294967296) (hk : w.cell? ⟨mb, mo + 2, Option.none⟩ = some (.slice (some ⟨kb, 0, Option.none⟩) 1 cap))
    (h0 : w.cell? ⟨kb, 0, Option.none⟩ = some (.int .i64 b)) (h1 : w.cell? ⟨kb, 1, Option.none⟩ = some (.int .i64 1000000000)) :
    Calls Yba.prog 15 #[.pointer (some ⟨mb, mo, Option.none⟩)] w fun e w' => e = .returned (.float .f64 (fl b)) ∧ Below w.heap.size w w' := by
  have l0 := World.block_lt_of_cell? w _ hk
  have l1 := World.block_lt_of_cell? w _ h0
  have n0 := World.new_ne w _ hk
  have n1 := World.new_ne w _ h0
  simp at l0 l1 n0 n1
  have om : D.order 0 (fl b) = some .lt := by rw [order_zero' b (by omega), cmp_lt (by omega)]
  have oz : FloatKind.f64.format.order (fl b) 0 = some .gt := by rw [show FloatKind.f64.format = D from rfl, order_zero b (by omega), cmp_gt (by omega)]
  have mx := fun w ts t => run_max_lt (P := Yba.prog) w ts t 0 (fl b) om
  clear om
  go_enter Yba.func15, Yba.ntmps15
  go_wp2
  refine wp_loop_rounds 2 ?_
  rw [rounds_succ]
  go_wp2
  refine wp_loop_rounds 2 ?_
  rw [rounds_succ]
  go_wp2
  go_region
  go_wp2
  go_region
  go_wp2
  rw [rounds_succ]
  go_wp2_with (go_at_call 17; refine (rate_at b 1000000000 4607182418800017408 (fl b) _ sec_one (div_one b (by omega))).mono ?_; rintro e w2 ⟨rfl, hb2⟩)
  have hz2 := hb2.size
  simp at hz2
  have d0 : w2.cell? ⟨w.heap.size, 0, Option.none⟩ = some (.int .i64 0) := (hb2.cell (p := ⟨w.heap.size, 0, Option.none⟩) (by simp; omega)).trans (by simp [go_sem])
  have d1 : w2.cell? ⟨w.heap.size, 1, Option.none⟩ = some (.int .i64 0) := (hb2.cell (p := ⟨w.heap.size, 1, Option.none⟩) (by simp; omega)).trans (by simp [go_sem])
  have z0 : w2.frozen? ⟨w.heap.size, 0, Option.none⟩ = false := (hb2.frozen (p := ⟨w.heap.size, 0, Option.none⟩) (by simp; omega)).trans (by simp [go_sem])
  have z1 : w2.frozen? ⟨w.heap.size, 1, Option.none⟩ = false := (hb2.frozen (p := ⟨w.heap.size, 1, Option.none⟩) (by simp; omega)).trans (by simp [go_sem])
  have k2 : w2.cell? ⟨mb, mo + 2, Option.none⟩ = some (.slice (some ⟨kb, 0, Option.none⟩) 1 cap) := (hb2.cell (p := ⟨mb, mo + 2, Option.none⟩) (by simp; omega)).trans (by simp [go_sem, *])
  have s0 : w2.cell? ⟨kb, 0, Option.none⟩ = some (.int .i64 b) := (hb2.cell (p := ⟨kb, 0, Option.none⟩) (by simp; omega)).trans (by simp [go_sem, *])
  have s1 : w2.cell? ⟨kb, 1, Option.none⟩ = some (.int .i64 1000000000) := (hb2.cell (p := ⟨kb, 1, Option.none⟩) (by simp; omega)).trans (by simp [go_sem, *])
  have hB : Below w.heap.size w w2 := Below.trans (by go_grown) (hb2.mono (by simp; omega))
  clear hb2
  go_region
  go_wp2
  go_region
  go_wp2
  rw [rounds_succ]
  go_wp2
  go_ret
  exact ⟨rfl, by go_grown⟩
end Go.Proofs.Ybulkjto

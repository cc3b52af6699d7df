import Derived.Test.YbulkjtoSteady
namespace Go.Proofs.Ybulkjto
open Go.RowKit
attribute [local go_sem ↓] Go.wp_at_zero Go.wp_at_succ

set_option maxRecDepth 100000 in
set_option maxHeartbeats 3200000 in
theorem steady_two_low (mb mo kb cap : Nat) (b : Int) (w : World) (hb0 : 0 ≤ b) (hb1 : b < 16384) (hk : w.cell? ⟨mb, mo + 2, Option.none⟩ = some (.slice (some ⟨kb, 0, Option.none⟩) 2 cap))
    (h0 : w.cell? ⟨kb, 0, Option.none⟩ = some (.int .i64 b)) (h1 : w.cell? ⟨kb, 1, Option.none⟩ = some (.int .i64 1000000000)) (h2 : w.cell? ⟨kb, 2, Option.none⟩ = some (.int .i64 b)) (h3 : w.cell? ⟨kb, 3, Option.none⟩ = some (.int .i64 1000000000)) :
    Calls Yba.prog 15 #[.pointer (some ⟨mb, mo, Option.none⟩)] w fun e w' => e = .returned (.float .f64 (fl b)) ∧ Below w.heap.size w w' := by
  have l0 := World.block_lt_of_cell? w _ hk
  have l1 := World.block_lt_of_cell? w _ h0
  have n0 := World.new_ne w _ hk
  have n1 := World.new_ne w _ h0
  simp at l0 l1 n0 n1
  have o0 : FloatKind.f64.format.order 0 0 = some .eq := by decide
  have HD2 : Hid (D.div (fl (2 * b)) 4611686018427387904 = some (fl b)) := div_two b (by omega)
  go_enter Yba.func15, Yba.ntmps15
  go_wp2
  go_loopw [3, 21] (fun m i wr => ∃ k : Nat, k ≤ 2 ∧ i = .int .i64 k ∧ m = .float .f64 (0) ∧ wr.cell? ⟨w.heap.size, 0, Option.none⟩ = some (.int .i64 ((k : Int) * b)) ∧ wr.cell? ⟨w.heap.size, 1, Option.none⟩ = some (.int .i64 ((k : Int) * 1000000000)) ∧
      wr.frozen? ⟨w.heap.size, 0, Option.none⟩ = false ∧ wr.frozen? ⟨w.heap.size, 1, Option.none⟩ = false ∧ Below w.heap.size w wr) (fun _ i _ => 2 - (intOf i).toNat)
  case atStart => exact ⟨0, by omega, rfl, rfl, by simp [go_sem], by simp [go_sem], by simp [go_sem], by simp [go_sem], by go_grown⟩
  case round =>
    obtain ⟨k, hk2, rfl, rfl, d0, d1, z0, z1, hB⟩ := hrel
    have la := World.block_lt_of_cell? wr _ d0
    simp at la
    have q2 : wr.cell? ⟨mb, mo + 2, Option.none⟩ = some (.slice (some ⟨kb, 0, Option.none⟩) 2 cap) := (hB.cell (p := ⟨mb, mo + 2, Option.none⟩) l0).trans hk
    have s0 : wr.cell? ⟨kb, 0, Option.none⟩ = some (.int .i64 b) := (hB.cell (p := ⟨kb, 0, Option.none⟩) l1).trans h0
    have s1 : wr.cell? ⟨kb, 1, Option.none⟩ = some (.int .i64 1000000000) := (hB.cell (p := ⟨kb, 1, Option.none⟩) l1).trans h1
    have s2 : wr.cell? ⟨kb, 2, Option.none⟩ = some (.int .i64 b) := (hB.cell (p := ⟨kb, 2, Option.none⟩) l1).trans h2
    have s3 : wr.cell? ⟨kb, 3, Option.none⟩ = some (.int .i64 1000000000) := (hB.cell (p := ⟨kb, 3, Option.none⟩) l1).trans h3
    have lm : mb < wr.heap.size := by omega
    have lk : kb < wr.heap.size := by omega
    have lm' : mb ≠ w.heap.size := by omega
    have lk' : kb ≠ w.heap.size := by omega
    clear hk h0 h1 h2 h3 n0 n1
    have hcase : k = 0 ∨ k = 1 ∨ k = 2 := by omega
    rcases hcase with rfl | rfl | rfl
    · simp at d0 d1
      go_wp2
      refine wp_loop_rounds 2 ?_
      rw [rounds_succ]
      go_wp2
      go_region
      go_wp2
      go_region
      go_wp2
      rw [rounds_succ]
      go_wp2
      go_region
      go_wp2
      go_region
      go_wp2
      go_roundw
      case rel => exact ⟨1, by omega, rfl, rfl, by first | (simp [go_sem, *]; done) | (simp [go_sem, *]; omega), by first | (simp [go_sem, *]; done) | (simp [go_sem, *]; omega), by simp [go_sem, *], by simp [go_sem, *], by go_grown⟩
      case measure => simp [intOf]
    · simp at d0 d1
      go_wp2
      refine wp_loop_rounds 3 ?_
      rw [rounds_succ]
      go_wp2
      go_region
      go_wp2
      go_region
      go_wp2
      rw [rounds_succ]
      go_wp2
      go_region
      go_wp2
      go_region
      go_wp2
      rw [rounds_succ]
      go_wp2
      go_region
      go_wp2
      go_region
      go_wp2
      go_roundw
      case rel => exact ⟨2, by omega, rfl, rfl, by first | (simp [go_sem, *]; done) | (simp [go_sem, *]; omega), by first | (simp [go_sem, *]; done) | (simp [go_sem, *]; omega), by simp [go_sem, *], by simp [go_sem, *], by go_grown⟩
      case measure => simp [intOf]
    · simp at d0 d1
      go_wp2_with (go_at_call 17; refine (rate_at (2 * b) 2000000000 4611686018427387904 (fl b) _ sec_two HD2.out).mono ?_; rintro e w2 ⟨rfl, hb2⟩)
      go_ret
      exact ⟨rfl, hB.trans (hb2.mono (by have := hB.size; simp; omega))⟩
end Go.Proofs.Ybulkjto

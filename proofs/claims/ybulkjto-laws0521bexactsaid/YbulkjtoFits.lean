import Derived.Test.YbulkjtoCount
namespace Go.Proofs.Ybulkjto
open Go.RowKit
attribute [local go_sem ↓] Go.wp_at_zero Go.wp_at_succ

set_option maxRecDepth 100000 in
set_option maxHeartbeats 800000 in
theorem steady_nil (db : Nat) (w : World) (h1 : w.cell? ⟨db, 1, Option.none⟩ = some (.int .i64 0)) (h2 : w.cell? ⟨db, 2, Option.none⟩ = some (.slice Option.none 0 0)) :
    Calls Yba.prog 15 #[.pointer (some ⟨db, 0, Option.none⟩)] w fun e w' => e = .returned (.float .f64 0) ∧ Below w.heap.size w w' := by
  go_enter Yba.func15, Yba.ntmps15
  go_wp2
  go_rounds 1
  go_ret
  exact ⟨rfl, Below.refl _ _⟩

set_option maxHeartbeats 400000 in
theorem sec_half (w : World) : Calls Yba.prog 11 #[.int .i64 500000000] w fun e w' => e = .returned (.float .f64 4602678819172646912) ∧ w = w' := by
  have q1 := run_float_arith (P := Yba.prog) w .quo 27 .f64 (fl 500000000) 4741671816366391296 4602678819172646912 (by kernel_rfl)
  have q2 := run_float_arith (P := Yba.prog) w .add 27 .f64 (fl 0) 4602678819172646912 4602678819172646912 (by kernel_rfl)
  go_enter Yba.func11, Yba.ntmps11
  go_wp2
  go_ret
  exact ⟨rfl, rfl⟩

set_option maxHeartbeats 400000 in
theorem sec_third (w : World) : Calls Yba.prog 11 #[.int .i64 300000000] w fun e w' => e = .returned (.float .f64 4599075939470750515) ∧ w = w' := by
  have q1 := run_float_arith (P := Yba.prog) w .quo 27 .f64 (fl 300000000) 4741671816366391296 4599075939470750515 (by kernel_rfl)
  have q2 := run_float_arith (P := Yba.prog) w .add 27 .f64 (fl 0) 4599075939470750515 4599075939470750515 (by kernel_rfl)
  go_enter Yba.func11, Yba.ntmps11
  go_wp2
  go_ret
  exact ⟨rfl, rfl⟩

set_option maxHeartbeats 400000 in
theorem room_grow (p : Int) (w : World) (hp0 : 0 ≤ p) (hp1 : p < 4294967296) : Calls Yba.prog 9 #[.float .f64 (fl p), .bool true] w fun e w' => e = .returned (.float .f64 (fl p)) ∧ w = w' := by
  have q1 := run_float_arith (P := Yba.prog) w .mul 27 .f64 4611686018427387904 (fl p) (fl (2 * p)) (mul_two p (by omega))
  have q2 := run_float_arith (P := Yba.prog) w .mul 27 .f64 (fl (2 * p)) 4602678819172646912 (fl p) (mul_half p (by omega))
  go_enter Yba.func9, Yba.ntmps9
  go_wp2_with (go_at_call 11; refine (sec_half _).mono ?_; rintro e w' ⟨rfl, rfl⟩)
  go_ret
  exact ⟨rfl, rfl⟩

set_option maxHeartbeats 400000 in
theorem room_flat (p : Int) (z : Nat) (w : World) (hz : D.mul (fl p) 4602678819172646912 = some z) : Calls Yba.prog 9 #[.float .f64 (fl p), .bool false] w fun e w' => e = .returned (.float .f64 z) ∧ w = w' := by
  have q2 := run_float_arith (P := Yba.prog) w .mul 27 .f64 (fl p) 4602678819172646912 z hz
  clear hz
  go_enter Yba.func9, Yba.ntmps9
  go_wp2_with (go_at_call 11; refine (sec_half _).mono ?_; rintro e w' ⟨rfl, rfl⟩)
  go_ret
  exact ⟨rfl, rfl⟩

set_option maxHeartbeats 400000 in
theorem grow_any (ub kb : Nat) (cap : Nat) (fl4 : Int) (w : World) (h2 : w.cell? ⟨ub, 2, Option.none⟩ = some (.slice (some ⟨kb, 0, Option.none⟩) 2 cap)) (h3 : w.cell? ⟨ub, 3, Option.none⟩ = some (.int .i64 fl4)) :
    Calls Yba.prog 10 #[.pointer (some ⟨ub, 0, Option.none⟩)] w fun e w' => e = .returned (.bool (decide (fl4 < 2))) ∧ w = w' := by
  go_enter Yba.func10, Yba.ntmps10
  go_wp2
  go_ret
  exact ⟨rfl, rfl⟩
end Go.Proofs.Ybulkjto

import Derived.Test.YbulkjtoRows
import Derived.Test.YbulkjtoFloats
import Derived.WalkKit
import Derived.WalkSpells
import Derived.WalkLawsBesides
import Derived.Handy
import Derived.Deep.RegionHeld3
import Derived.Deep.DrawnRows
namespace Go.Proofs.Ybulkjto
open Go.RowKit
attribute [local go_sem ↓] Go.wp_at_zero Go.wp_at_succ

set_option maxHeartbeats 400000 in
theorem sec_one (w : World) : Calls Yba.prog 11 #[.int .i64 1000000000] w fun e w' => e = .returned (.float .f64 4607182418800017408) ∧ w = w' := by
  have q1 := run_float_arith (P := Yba.prog) w .quo 27 .f64 (fl 0) 4741671816366391296 0 (by kernel_rfl)
  have q2 := run_float_arith (P := Yba.prog) w .add 27 .f64 (fl 1) 0 4607182418800017408 (by kernel_rfl)
  go_enter Yba.func11, Yba.ntmps11
  go_wp2
  go_ret
  exact ⟨rfl, rfl⟩

set_option maxHeartbeats 400000 in
theorem sec_two (w : World) : Calls Yba.prog 11 #[.int .i64 2000000000] w fun e w' => e = .returned (.float .f64 4611686018427387904) ∧ w = w' := by
  have q1 := run_float_arith (P := Yba.prog) w .quo 27 .f64 (fl 0) 4741671816366391296 0 (by kernel_rfl)
  have q2 := run_float_arith (P := Yba.prog) w .add 27 .f64 (fl 2) 0 4611686018427387904 (by kernel_rfl)
  go_enter Yba.func11, Yba.ntmps11
  go_wp2
  go_ret
  exact ⟨rfl, rfl⟩

theorem keep_alloc {w : World} {a : Addr} {v : Value} (h : w.cell? a = some v) (o : Obj) : (w.alloc o).cell? a = some v := (World.grownBy_alloc w o Option.none).cell h (by simp)
theorem keep_drew {w : World} {a : Addr} {v : Value} (h : w.cell? a = some v) : w.drew.cell? a = some v := h

set_option maxRecDepth 100000 in
set_option maxHeartbeats 800000 in
theorem rate_at (b span : Int) (S r : Nat) (w : World) (hsec : ∀ w, Calls Yba.prog 11 #[.int .i64 span] w fun e w' => e = .returned (.float .f64 S) ∧ w = w') (hdiv : D.div (fl b) S = some r) :
    Calls Yba.prog 17 #[.agg #[.int .i64 b, .int .i64 span]] w fun e w' => e = .returned (.float .f64 r) ∧ Below w.heap.size w w' := by
  have q1 := fun w => run_float_arith (P := Yba.prog) w .quo 27 .f64 (fl b) S r hdiv
  clear hdiv
  have H1 := hsec
  have HS : Hid (∀ w, Calls Yba.prog 11 #[.int .i64 span] w fun e w' => e = .returned (.float .f64 S) ∧ w = w') := hsec
  clear hsec H1
  have c0 : (w.alloc (.cells #[.int .i64 b, .int .i64 span] 39)).cell? ⟨w.heap.size, 0, Option.none⟩ = some (.int .i64 b) := by simp [go_sem]
  have c1 : (w.alloc (.cells #[.int .i64 b, .int .i64 span] 39)).cell? ⟨w.heap.size, 1, Option.none⟩ = some (.int .i64 span) := by simp [go_sem]
  go_enter Yba.func17, Yba.ntmps17
  go_wp2_with fail
  go_region_held3 (fun w' => w'.cell? ⟨w.heap.size, 0, Option.none⟩ = some (.int .i64 b) ∧ w'.cell? ⟨w.heap.size, 1, Option.none⟩ = some (.int .i64 span))
    ((exact ⟨keep_drew c0, keep_drew c1⟩))
    (first
      | (go_at_call 11; refine (HS.out _).mono ?_; rintro e w' ⟨rfl, rfl⟩))
  go_wp2
  go_ret
  exact ⟨rfl, ((Below.refl _ _).alloc (Nat.le_refl _) _).drew⟩
end Go.Proofs.Ybulkjto

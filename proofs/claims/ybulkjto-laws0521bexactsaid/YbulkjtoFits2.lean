import Derived.Test.YbulkjtoFits
import Derived.Test.YbulkjtoSteadyLow
import Derived.Test.YbulkjtoSteadyMid
import Derived.Test.YbulkjtoSteadyHigh
namespace Go.Proofs.Ybulkjto
open Go.RowKit

theorem steady_two (mb mo kb cap : Nat) (b : Int) (w : World) (hb0 : 0 ≤ b) (hb1 : b < 4294967296) (hk : w.cell? ⟨mb, mo + 2, Option.none⟩ = some (.slice (some ⟨kb, 0, Option.none⟩) 2 cap))
    (h0 : w.cell? ⟨kb, 0, Option.none⟩ = some (.int .i64 b)) (h1 : w.cell? ⟨kb, 1, Option.none⟩ = some (.int .i64 1000000000)) (h2 : w.cell? ⟨kb, 2, Option.none⟩ = some (.int .i64 b)) (h3 : w.cell? ⟨kb, 3, Option.none⟩ = some (.int .i64 1000000000)) :
    Calls Yba.prog 15 #[.pointer (some ⟨mb, mo, Option.none⟩)] w fun e w' => e = .returned (.float .f64 (fl b)) ∧ Below w.heap.size w w' := by
  by_cases hA : b < 16384
  · exact steady_two_low mb mo kb cap b w hb0 hA hk h0 h1 h2 h3
  by_cases hB : b < 32768
  · exact steady_two_mid mb mo kb cap b w (by omega) hB hk h0 h1 h2 h3
  exact steady_two_high mb mo kb cap b w (by omega) hb1 hk h0 h1 h2 h3

set_option maxRecDepth 100000 in
set_option maxHeartbeats 800000 in
theorem fits_lo_hg (ub n s g cap : Nat) (xs ps : List Nat) (kb kcap : Nat) (p sz P f4 : Int) (o l m : Nat) (w : World) (hp0 : 0 ≤ p) (hp1 : p < 4294967296) (hn : n ≤ 100000) (hU : Ups w ub n xs g cap ps) (hS : SpeedIs w ub s) (hheld : decide (n < 2 * cntB xs s n) = true)
    (h2 : w.cell? ⟨ub, 2, Option.none⟩ = some (.slice (some ⟨kb, 0, Option.none⟩) 2 kcap)) (h3 : w.cell? ⟨ub, 3, Option.none⟩ = some (.int .i64 f4)) (h15 : w.cell? ⟨ub, 15, Option.none⟩ = some (.int .i64 P)) (hP : P < 250000000) (hf4 : f4 < 2) (ho : o = fl p)
    (hl : D.mul 4611686018427387904 (fl sz) = some l) (hmax : ∀ (w : World) ts t, (Builtin.max_ ts t #[.float .f64 o, .float .f64 l]).run Yba.prog w = .ok (.float .f64 m) w) :
    Calls Yba.prog 6 #[.pointer (some ⟨ub, 0, Option.none⟩), .float .f64 (fl p), .int .i64 sz] w fun e w' => e = .returned (.float .f64 m) ∧ Below w.heap.size w w' := by
  have HU : Hid (Ups w ub n xs g cap ps) := hU
  have HS : Hid (SpeedIs w ub s) := hS
  have HH : Hid (decide (n < 2 * cntB xs s n) = true) := hheld
  have lu := World.block_lt_of_cell? w _ h2
  simp at lu
  have ql := fun w => run_float_arith (P := Yba.prog) w .mul 27 .f64 4611686018427387904 (fl sz) l hl
  clear hU hS hheld hl
  subst ho
  have hd : decide (f4 < 2) = true := decide_eq_true hf4
  go_enter Yba.func6, Yba.ntmps6
  go_wp2_with fail
  refine (held_any ub n s g cap xs ps w hn HU.out HS.out).mono ?_
  rintro e w1 ⟨rfl, hb1⟩
  rw [HH.out]
  have k2 : w1.cell? ⟨ub, 2, Option.none⟩ = some (.slice (some ⟨kb, 0, Option.none⟩) 2 kcap) := (hb1.cell (p := ⟨ub, 2, Option.none⟩) lu).trans h2
  have k3 : w1.cell? ⟨ub, 3, Option.none⟩ = some (.int .i64 f4) := (hb1.cell (p := ⟨ub, 3, Option.none⟩) lu).trans h3
  have k15 : w1.cell? ⟨ub, 15, Option.none⟩ = some (.int .i64 P) := (hb1.cell (p := ⟨ub, 15, Option.none⟩) lu).trans h15
  clear h2 h3 h15
  go_wp2_with (first
    | (go_at_call 10; refine (grow_any ub kb kcap f4 _ (by assumption) (by assumption)).mono ?_; rintro e w' ⟨rfl, rfl⟩; rw [hd])
    | (go_at_call 9; refine (room_grow p _ hp0 hp1).mono ?_; rintro e w' ⟨rfl, rfl⟩))
  go_ret
  exact ⟨rfl, hb1⟩

set_option maxRecDepth 100000 in
set_option maxHeartbeats 800000 in
theorem fits_lo_hf (ub n s g cap : Nat) (xs ps : List Nat) (kb kcap : Nat) (p sz P f4 : Int) (o l m : Nat) (w : World) (hn : n ≤ 100000) (hU : Ups w ub n xs g cap ps) (hS : SpeedIs w ub s) (hheld : decide (n < 2 * cntB xs s n) = true)
    (h2 : w.cell? ⟨ub, 2, Option.none⟩ = some (.slice (some ⟨kb, 0, Option.none⟩) 2 kcap)) (h3 : w.cell? ⟨ub, 3, Option.none⟩ = some (.int .i64 f4)) (h15 : w.cell? ⟨ub, 15, Option.none⟩ = some (.int .i64 P)) (hP : P < 250000000) (hf4 : 2 ≤ f4) (ho : D.mul (fl p) 4602678819172646912 = some o)
    (hl : D.mul 4611686018427387904 (fl sz) = some l) (hmax : ∀ (w : World) ts t, (Builtin.max_ ts t #[.float .f64 o, .float .f64 l]).run Yba.prog w = .ok (.float .f64 m) w) :
    Calls Yba.prog 6 #[.pointer (some ⟨ub, 0, Option.none⟩), .float .f64 (fl p), .int .i64 sz] w fun e w' => e = .returned (.float .f64 m) ∧ Below w.heap.size w w' := by
  have HU : Hid (Ups w ub n xs g cap ps) := hU
  have HS : Hid (SpeedIs w ub s) := hS
  have HH : Hid (decide (n < 2 * cntB xs s n) = true) := hheld
  have lu := World.block_lt_of_cell? w _ h2
  simp at lu
  have ql := fun w => run_float_arith (P := Yba.prog) w .mul 27 .f64 4611686018427387904 (fl sz) l hl
  clear hU hS hheld hl
  have HO : Hid (D.mul (fl p) 4602678819172646912 = some o) := ho
  clear ho
  have hd : decide (f4 < 2) = false := decide_eq_false (by omega)
  go_enter Yba.func6, Yba.ntmps6
  go_wp2_with fail
  refine (held_any ub n s g cap xs ps w hn HU.out HS.out).mono ?_
  rintro e w1 ⟨rfl, hb1⟩
  rw [HH.out]
  have k2 : w1.cell? ⟨ub, 2, Option.none⟩ = some (.slice (some ⟨kb, 0, Option.none⟩) 2 kcap) := (hb1.cell (p := ⟨ub, 2, Option.none⟩) lu).trans h2
  have k3 : w1.cell? ⟨ub, 3, Option.none⟩ = some (.int .i64 f4) := (hb1.cell (p := ⟨ub, 3, Option.none⟩) lu).trans h3
  have k15 : w1.cell? ⟨ub, 15, Option.none⟩ = some (.int .i64 P) := (hb1.cell (p := ⟨ub, 15, Option.none⟩) lu).trans h15
  clear h2 h3 h15
  go_wp2_with (first
    | (go_at_call 10; refine (grow_any ub kb kcap f4 _ (by assumption) (by assumption)).mono ?_; rintro e w' ⟨rfl, rfl⟩; rw [hd])
    | (go_at_call 9; refine (room_flat p o _ HO.out).mono ?_; rintro e w' ⟨rfl, rfl⟩))
  go_ret
  exact ⟨rfl, hb1⟩

set_option maxRecDepth 100000 in
set_option maxHeartbeats 800000 in
theorem fits_lo_n (ub n s g cap : Nat) (xs ps : List Nat) (kb kcap : Nat) (p sz P f4 : Int) (o l m : Nat) (w : World) (hn : n ≤ 100000) (hU : Ups w ub n xs g cap ps) (hS : SpeedIs w ub s) (hheld : decide (n < 2 * cntB xs s n) = false)
    (h2 : w.cell? ⟨ub, 2, Option.none⟩ = some (.slice (some ⟨kb, 0, Option.none⟩) 2 kcap)) (h3 : w.cell? ⟨ub, 3, Option.none⟩ = some (.int .i64 f4)) (h15 : w.cell? ⟨ub, 15, Option.none⟩ = some (.int .i64 P)) (hP : P < 250000000) (ho : D.mul (fl p) 4599075939470750515 = some o)
    (hl : D.mul 4611686018427387904 (fl sz) = some l) (hmax : ∀ (w : World) ts t, (Builtin.max_ ts t #[.float .f64 o, .float .f64 l]).run Yba.prog w = .ok (.float .f64 m) w) :
    Calls Yba.prog 6 #[.pointer (some ⟨ub, 0, Option.none⟩), .float .f64 (fl p), .int .i64 sz] w fun e w' => e = .returned (.float .f64 m) ∧ Below w.heap.size w w' := by
  have HU : Hid (Ups w ub n xs g cap ps) := hU
  have HS : Hid (SpeedIs w ub s) := hS
  have HH : Hid (decide (n < 2 * cntB xs s n) = false) := hheld
  have lu := World.block_lt_of_cell? w _ h2
  simp at lu
  have ql := fun w => run_float_arith (P := Yba.prog) w .mul 27 .f64 4611686018427387904 (fl sz) l hl
  clear hU hS hheld hl
  have qo := fun w => run_float_arith (P := Yba.prog) w .mul 27 .f64 (fl p) 4599075939470750515 o ho
  clear ho
  go_enter Yba.func6, Yba.ntmps6
  go_wp2_with fail
  refine (held_any ub n s g cap xs ps w hn HU.out HS.out).mono ?_
  rintro e w1 ⟨rfl, hb1⟩
  rw [HH.out]
  have k2 : w1.cell? ⟨ub, 2, Option.none⟩ = some (.slice (some ⟨kb, 0, Option.none⟩) 2 kcap) := (hb1.cell (p := ⟨ub, 2, Option.none⟩) lu).trans h2
  have k3 : w1.cell? ⟨ub, 3, Option.none⟩ = some (.int .i64 f4) := (hb1.cell (p := ⟨ub, 3, Option.none⟩) lu).trans h3
  have k15 : w1.cell? ⟨ub, 15, Option.none⟩ = some (.int .i64 P) := (hb1.cell (p := ⟨ub, 15, Option.none⟩) lu).trans h15
  clear h2 h3 h15
  go_wp2_with (first
    | (go_at_call 11; refine (sec_third _).mono ?_; rintro e w' ⟨rfl, rfl⟩))
  go_ret
  exact ⟨rfl, hb1⟩

set_option maxRecDepth 100000 in
set_option maxHeartbeats 800000 in
theorem fits_hi_hg (ub n s g cap : Nat) (xs ps : List Nat) (kb kcap : Nat) (p sz P f4 : Int) (o l m : Nat) (w : World) (hp0 : 0 ≤ p) (hp1 : p < 4294967296) (hn : n ≤ 100000) (hU : Ups w ub n xs g cap ps) (hS : SpeedIs w ub s) (hheld : decide (n < 2 * cntB xs s n) = true)
    (h2 : w.cell? ⟨ub, 2, Option.none⟩ = some (.slice (some ⟨kb, 0, Option.none⟩) 2 kcap)) (h3 : w.cell? ⟨ub, 3, Option.none⟩ = some (.int .i64 f4)) (h15 : w.cell? ⟨ub, 15, Option.none⟩ = some (.int .i64 P)) (hP : 250000000 ≤ P) (hf4 : f4 < 2) (ho : o = fl p)
    (hl : D.mul 4609434218613702656 (fl sz) = some l) (hmax : ∀ (w : World) ts t, (Builtin.max_ ts t #[.float .f64 o, .float .f64 l]).run Yba.prog w = .ok (.float .f64 m) w) :
    Calls Yba.prog 6 #[.pointer (some ⟨ub, 0, Option.none⟩), .float .f64 (fl p), .int .i64 sz] w fun e w' => e = .returned (.float .f64 m) ∧ Below w.heap.size w w' := by
  have HU : Hid (Ups w ub n xs g cap ps) := hU
  have HS : Hid (SpeedIs w ub s) := hS
  have HH : Hid (decide (n < 2 * cntB xs s n) = true) := hheld
  have lu := World.block_lt_of_cell? w _ h2
  simp at lu
  have ql := fun w => run_float_arith (P := Yba.prog) w .mul 27 .f64 4609434218613702656 (fl sz) l hl
  clear hU hS hheld hl
  subst ho
  have hd : decide (f4 < 2) = true := decide_eq_true hf4
  go_enter Yba.func6, Yba.ntmps6
  go_wp2_with fail
  refine (held_any ub n s g cap xs ps w hn HU.out HS.out).mono ?_
  rintro e w1 ⟨rfl, hb1⟩
  rw [HH.out]
  have k2 : w1.cell? ⟨ub, 2, Option.none⟩ = some (.slice (some ⟨kb, 0, Option.none⟩) 2 kcap) := (hb1.cell (p := ⟨ub, 2, Option.none⟩) lu).trans h2
  have k3 : w1.cell? ⟨ub, 3, Option.none⟩ = some (.int .i64 f4) := (hb1.cell (p := ⟨ub, 3, Option.none⟩) lu).trans h3
  have k15 : w1.cell? ⟨ub, 15, Option.none⟩ = some (.int .i64 P) := (hb1.cell (p := ⟨ub, 15, Option.none⟩) lu).trans h15
  clear h2 h3 h15
  go_wp2_with (first
    | (go_at_call 10; refine (grow_any ub kb kcap f4 _ (by assumption) (by assumption)).mono ?_; rintro e w' ⟨rfl, rfl⟩; rw [hd])
    | (go_at_call 9; refine (room_grow p _ hp0 hp1).mono ?_; rintro e w' ⟨rfl, rfl⟩))
  go_ret
  exact ⟨rfl, hb1⟩

set_option maxRecDepth 100000 in
set_option maxHeartbeats 800000 in
theorem fits_hi_hf (ub n s g cap : Nat) (xs ps : List Nat) (kb kcap : Nat) (p sz P f4 : Int) (o l m : Nat) (w : World) (hn : n ≤ 100000) (hU : Ups w ub n xs g cap ps) (hS : SpeedIs w ub s) (hheld : decide (n < 2 * cntB xs s n) = true)
    (h2 : w.cell? ⟨ub, 2, Option.none⟩ = some (.slice (some ⟨kb, 0, Option.none⟩) 2 kcap)) (h3 : w.cell? ⟨ub, 3, Option.none⟩ = some (.int .i64 f4)) (h15 : w.cell? ⟨ub, 15, Option.none⟩ = some (.int .i64 P)) (hP : 250000000 ≤ P) (hf4 : 2 ≤ f4) (ho : D.mul (fl p) 4602678819172646912 = some o)
    (hl : D.mul 4609434218613702656 (fl sz) = some l) (hmax : ∀ (w : World) ts t, (Builtin.max_ ts t #[.float .f64 o, .float .f64 l]).run Yba.prog w = .ok (.float .f64 m) w) :
    Calls Yba.prog 6 #[.pointer (some ⟨ub, 0, Option.none⟩), .float .f64 (fl p), .int .i64 sz] w fun e w' => e = .returned (.float .f64 m) ∧ Below w.heap.size w w' := by
  have HU : Hid (Ups w ub n xs g cap ps) := hU
  have HS : Hid (SpeedIs w ub s) := hS
  have HH : Hid (decide (n < 2 * cntB xs s n) = true) := hheld
  have lu := World.block_lt_of_cell? w _ h2
  simp at lu
  have ql := fun w => run_float_arith (P := Yba.prog) w .mul 27 .f64 4609434218613702656 (fl sz) l hl
  clear hU hS hheld hl
  have HO : Hid (D.mul (fl p) 4602678819172646912 = some o) := ho
  clear ho
  have hd : decide (f4 < 2) = false := decide_eq_false (by omega)
  go_enter Yba.func6, Yba.ntmps6
  go_wp2_with fail
  refine (held_any ub n s g cap xs ps w hn HU.out HS.out).mono ?_
  rintro e w1 ⟨rfl, hb1⟩
  rw [HH.out]
  have k2 : w1.cell? ⟨ub, 2, Option.none⟩ = some (.slice (some ⟨kb, 0, Option.none⟩) 2 kcap) := (hb1.cell (p := ⟨ub, 2, Option.none⟩) lu).trans h2
  have k3 : w1.cell? ⟨ub, 3, Option.none⟩ = some (.int .i64 f4) := (hb1.cell (p := ⟨ub, 3, Option.none⟩) lu).trans h3
  have k15 : w1.cell? ⟨ub, 15, Option.none⟩ = some (.int .i64 P) := (hb1.cell (p := ⟨ub, 15, Option.none⟩) lu).trans h15
  clear h2 h3 h15
  go_wp2_with (first
    | (go_at_call 10; refine (grow_any ub kb kcap f4 _ (by assumption) (by assumption)).mono ?_; rintro e w' ⟨rfl, rfl⟩; rw [hd])
    | (go_at_call 9; refine (room_flat p o _ HO.out).mono ?_; rintro e w' ⟨rfl, rfl⟩))
  go_ret
  exact ⟨rfl, hb1⟩

set_option maxRecDepth 100000 in
set_option maxHeartbeats 800000 in
theorem fits_hi_n (ub n s g cap : Nat) (xs ps : List Nat) (kb kcap : Nat) (p sz P f4 : Int) (o l m : Nat) (w : World) (hn : n ≤ 100000) (hU : Ups w ub n xs g cap ps) (hS : SpeedIs w ub s) (hheld : decide (n < 2 * cntB xs s n) = false)
    (h2 : w.cell? ⟨ub, 2, Option.none⟩ = some (.slice (some ⟨kb, 0, Option.none⟩) 2 kcap)) (h3 : w.cell? ⟨ub, 3, Option.none⟩ = some (.int .i64 f4)) (h15 : w.cell? ⟨ub, 15, Option.none⟩ = some (.int .i64 P)) (hP : 250000000 ≤ P) (ho : D.mul (fl p) 4599075939470750515 = some o)
    (hl : D.mul 4608533498688228557 (fl sz) = some l) (hmax : ∀ (w : World) ts t, (Builtin.max_ ts t #[.float .f64 o, .float .f64 l]).run Yba.prog w = .ok (.float .f64 m) w) :
    Calls Yba.prog 6 #[.pointer (some ⟨ub, 0, Option.none⟩), .float .f64 (fl p), .int .i64 sz] w fun e w' => e = .returned (.float .f64 m) ∧ Below w.heap.size w w' := by
  have HU : Hid (Ups w ub n xs g cap ps) := hU
  have HS : Hid (SpeedIs w ub s) := hS
  have HH : Hid (decide (n < 2 * cntB xs s n) = false) := hheld
  have lu := World.block_lt_of_cell? w _ h2
  simp at lu
  have ql := fun w => run_float_arith (P := Yba.prog) w .mul 27 .f64 4608533498688228557 (fl sz) l hl
  clear hU hS hheld hl
  have qo := fun w => run_float_arith (P := Yba.prog) w .mul 27 .f64 (fl p) 4599075939470750515 o ho
  clear ho
  go_enter Yba.func6, Yba.ntmps6
  go_wp2_with fail
  refine (held_any ub n s g cap xs ps w hn HU.out HS.out).mono ?_
  rintro e w1 ⟨rfl, hb1⟩
  rw [HH.out]
  have k2 : w1.cell? ⟨ub, 2, Option.none⟩ = some (.slice (some ⟨kb, 0, Option.none⟩) 2 kcap) := (hb1.cell (p := ⟨ub, 2, Option.none⟩) lu).trans h2
  have k3 : w1.cell? ⟨ub, 3, Option.none⟩ = some (.int .i64 f4) := (hb1.cell (p := ⟨ub, 3, Option.none⟩) lu).trans h3
  have k15 : w1.cell? ⟨ub, 15, Option.none⟩ = some (.int .i64 P) := (hb1.cell (p := ⟨ub, 15, Option.none⟩) lu).trans h15
  clear h2 h3 h15
  go_wp2_with (first
    | (go_at_call 11; refine (sec_third _).mono ?_; rintro e w' ⟨rfl, rfl⟩))
  go_ret
  exact ⟨rfl, hb1⟩
end Go.Proofs.Ybulkjto

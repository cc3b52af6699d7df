import Derived.Test.YbulkjsmFmtFacts
import Derived.WalkKit
import Derived.WalkSpells
import Derived.WalkLawsBesides
import Derived.Handy
namespace Go.Proofs.YbulkjsmFmt
open Go.RowKit Go.Extern.Stop Go.Stop Go.Extern
attribute [local go_sem] call15 fguard fmt0 fmt0r fmt1 fmt1r op3_118 op3_100 op3_118w op3_100w strict3 ptr76 elem76 isError76

set_option maxHeartbeats 400000 in
theorem nocall_long (n : Int) (a : Option Addr) (len cap : Nat) (w : World) (h : 1024 < len) :
    Calls Ybaf.prog 4 #[.int .i64 n, .slice a len cap] w fun e w' => e = .returned (.bool true) ∧ Below w.heap.size w w' := by
  go_enter Ybaf.func4, Ybaf.ntmps4
  go_wp2
  go_ret
  exact ⟨rfl, Below.refl _ _⟩

set_option maxRecDepth 100000 in
set_option maxHeartbeats 400000 in
theorem nocall_low (F : Interp) (n : Int) (a : Option Addr) (len cap : Nat) (w : World) (hF : F.answers w.tape) (h : len ≤ 1024) (hn : n < 1) :
    Calls Ybaf.prog 4 #[.int .i64 n, .slice a len cap] w fun e w' => e = .returned (.bool true) ∧ Below w.heap.size w w' := by
  have hF' := answers_open hF
  have e51 := fun (w : World) (a : Option Addr) (n c : Nat) => Lib.run_eql_slice_nil (P := Ybaf.prog) w 51 23 a n c 0 0 Ybaf.underlying51
  go_enter Ybaf.func4, Ybaf.ntmps4
  go_wp2
  go_ret
  exact ⟨rfl, by go_grown⟩

set_option maxRecDepth 100000 in
set_option maxHeartbeats 400000 in
theorem nocall_high (F : Interp) (n : Int) (a : Option Addr) (len cap : Nat) (w : World) (hF : F.answers w.tape) (h : len ≤ 1024) (hn : 7 < n) :
    Calls Ybaf.prog 4 #[.int .i64 n, .slice a len cap] w fun e w' => e = .returned (.bool true) ∧ Below w.heap.size w w' := by
  have hF' := answers_open hF
  have e51 := fun (w : World) (a : Option Addr) (n c : Nat) => Lib.run_eql_slice_nil (P := Ybaf.prog) w 51 23 a n c 0 0 Ybaf.underlying51
  go_enter Ybaf.func4, Ybaf.ntmps4
  go_wp2
  go_ret
  exact ⟨rfl, by go_grown⟩

set_option maxRecDepth 100000 in
set_option maxHeartbeats 400000 in
theorem nocall_empty (F : Interp) (n : Int) (a : Option Addr) (len cap : Nat) (w : World) (hF : F.answers w.tape) (h : len ≤ 1024) (hn : 1 ≤ n) (hn7 : n ≤ 7) (hl : len = 0) :
    Calls Ybaf.prog 4 #[.int .i64 n, .slice a len cap] w fun e w' => e = .returned (.bool true) ∧ Below w.heap.size w w' := by
  have hF' := answers_open hF
  have e51 := fun (w : World) (a : Option Addr) (n c : Nat) => Lib.run_eql_slice_nil (P := Ybaf.prog) w 51 23 a n c 0 0 Ybaf.underlying51
  subst hl
  go_enter Ybaf.func4, Ybaf.ntmps4
  go_wp2
  go_ret
  exact ⟨rfl, by go_grown⟩

set_option maxRecDepth 100000 in
set_option maxHeartbeats 400000 in
theorem nocall_over (F : Interp) (n : Int) (a : Option Addr) (len cap : Nat) (w : World) (hF : F.answers w.tape) (h : len ≤ 1024) (hn : 1 ≤ n) (hn7 : n ≤ 7) (hl : 20 < len) :
    Calls Ybaf.prog 4 #[.int .i64 n, .slice a len cap] w fun e w' => e = .returned (.bool true) ∧ Below w.heap.size w w' := by
  have hF' := answers_open hF
  have e51 := fun (w : World) (a : Option Addr) (n c : Nat) => Lib.run_eql_slice_nil (P := Ybaf.prog) w 51 23 a n c 0 0 Ybaf.underlying51
  have hl0 : ((len : Int) == 0) = false := beq_eq_false_iff_ne.2 (by omega)
  go_enter Ybaf.func4, Ybaf.ntmps4
  go_wp2
  go_ret
  exact ⟨rfl, by go_grown⟩

set_option maxRecDepth 100000 in
set_option maxHeartbeats 800000 in
theorem nocall_fine (n : Int) (a : Option Addr) (len cap : Nat) (w : World) (h : len ≤ 1024) (hn : 1 ≤ n) (hn7 : n ≤ 7) (hl : 1 ≤ len) (hl20 : len ≤ 20) :
    Calls Ybaf.prog 4 #[.int .i64 n, .slice a len cap] w fun e w' => e = .returned (.bool true) ∧ Below w.heap.size w w' := by
  have e51 := fun (w : World) (a : Option Addr) (n c : Nat) => Lib.run_eql_slice_nil (P := Ybaf.prog) w 51 23 a n c 0 0 Ybaf.underlying51
  have hl0 : ((len : Int) == 0) = false := beq_eq_false_iff_ne.2 (by omega)
  have hl2 : decide ((20 : Int) < (len : Int)) = false := decide_eq_false (by omega)
  have hs : n = 1 ∨ n = 2 ∨ n = 3 ∨ n = 4 ∨ n = 5 ∨ n = 6 ∨ n = 7 := by omega
  rcases hs with rfl | rfl | rfl | rfl | rfl | rfl | rfl
  all_goals
    clear hn hn7
    go_enter Ybaf.func4, Ybaf.ntmps4
    go_wp2
    go_ret
    exact ⟨rfl, by go_grown⟩
end Go.Proofs.YbulkjsmFmt

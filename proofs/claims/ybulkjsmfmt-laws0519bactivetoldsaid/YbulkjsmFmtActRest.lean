import Derived.Test.YbulkjsmFmtSub
import Derived.Test.YbulkjsmFmtFacts
namespace Go.Proofs.YbulkjsmFmt
open Go.RowKit Go.Extern.Stop Go.Stop Go.Extern
attribute [local go_sem] call15 fguard fmt0 fmt0r fmt1 fmt1r op3_118 op3_100 op3_118w op3_100w strict3 ptr76 elem76 isError76

set_option maxHeartbeats 400000 in
theorem act_long (v sel : Int) (peer held : Bool) (a : Option Addr) (len cap : Nat) (w : World) (h : 1024 < len) :
    Calls Ybaf.prog 3 #[.int .u16 v, .bool peer, .slice a len cap, .int .u8 sel, .bool held] w fun e w' => e = .returned (.bool true) ∧ Below w.heap.size w w' := by
  go_enter Ybaf.func3, Ybaf.ntmps3
  go_wp2
  go_ret
  exact ⟨rfl, Below.refl _ _⟩

set_option maxRecDepth 100000 in
set_option maxHeartbeats 800000 in
theorem act_empty_false (F : Interp) (v sel : Int) (peer : Bool) (a : Option Addr) (len cap : Nat) (w : World) (hF : F.answers w.tape) (hs0 : 0 ≤ sel) (hs1 : sel ≤ 255) (hl : len = 0) :
    Calls Ybaf.prog 3 #[.int .u16 v, .bool peer, .slice a len cap, .int .u8 sel, .bool false] w fun e w' => e = .returned (.bool true) ∧ Below w.heap.size w w' := by
  have hF' := answers_open hF
  have e51 := fun (w : World) (a : Option Addr) (n c : Nat) => Lib.run_eql_slice_nil (P := Ybaf.prog) w 51 23 a n c 0 0 Ybaf.underlying51
  subst hl
  go_enter Ybaf.func3, Ybaf.ntmps3
  go_wp2_with (first
    | (go_at_call 5; refine (add_any _).mono ?_; rintro e w' ⟨rfl, rfl⟩)
    | go_in)
  go_ret
  exact ⟨rfl, by go_grown⟩

set_option maxRecDepth 100000 in
set_option maxHeartbeats 800000 in
theorem act_over_false (F : Interp) (v sel : Int) (peer : Bool) (a : Option Addr) (len cap : Nat) (w : World) (hF : F.answers w.tape) (hs0 : 0 ≤ sel) (hs1 : sel ≤ 255) (hl : 20 < len) (h : len ≤ 1024) :
    Calls Ybaf.prog 3 #[.int .u16 v, .bool peer, .slice a len cap, .int .u8 sel, .bool false] w fun e w' => e = .returned (.bool true) ∧ Below w.heap.size w w' := by
  have hF' := answers_open hF
  have e51 := fun (w : World) (a : Option Addr) (n c : Nat) => Lib.run_eql_slice_nil (P := Ybaf.prog) w 51 23 a n c 0 0 Ybaf.underlying51
  have hl0 : ((len : Int) == 0) = false := beq_eq_false_iff_ne.2 (by omega)
  go_enter Ybaf.func3, Ybaf.ntmps3
  go_wp2_with (first
    | (go_at_call 5; refine (add_any _).mono ?_; rintro e w' ⟨rfl, rfl⟩)
    | go_in)
  go_ret
  exact ⟨rfl, by go_grown⟩

set_option maxRecDepth 100000 in
set_option maxHeartbeats 800000 in
theorem act_other_false (v sel : Int) (peer : Bool) (a : Option Addr) (len cap : Nat) (w : World) (hs0 : 0 ≤ sel) (hs1 : sel ≤ 255) (hl : 1 ≤ len) (hl20 : len ≤ 20) (hst : sel % 10 ≠ 7) :
    Calls Ybaf.prog 3 #[.int .u16 v, .bool peer, .slice a len cap, .int .u8 sel, .bool false] w fun e w' => e = .returned (.bool true) ∧ Below w.heap.size w w' := by
  have e51 := fun (w : World) (a : Option Addr) (n c : Nat) => Lib.run_eql_slice_nil (P := Ybaf.prog) w 51 23 a n c 0 0 Ybaf.underlying51
  have hl0 : ((len : Int) == 0) = false := beq_eq_false_iff_ne.2 (by omega)
  have hl2 : decide ((20 : Int) < (len : Int)) = false := decide_eq_false (by omega)
  have hst1 : (sel % 10 == 7) = false := beq_eq_false_iff_ne.2 hst
  have hst2 : (sel % 10 != 7) = true := bne_iff_ne.2 hst
  clear hst
  go_enter Ybaf.func3, Ybaf.ntmps3
  go_wp2_with (first
    | (go_at_call 5; refine (add_any _).mono ?_; rintro e w' ⟨rfl, rfl⟩)
    | go_in)
  go_ret
  exact ⟨rfl, by go_grown⟩

set_option maxRecDepth 100000 in
set_option maxHeartbeats 800000 in
theorem act_empty_true (F : Interp) (v sel : Int) (peer : Bool) (a : Option Addr) (len cap : Nat) (w : World) (hF : F.answers w.tape) (hs0 : 0 ≤ sel) (hs1 : sel ≤ 255) (hl : len = 0) :
    Calls Ybaf.prog 3 #[.int .u16 v, .bool peer, .slice a len cap, .int .u8 sel, .bool true] w fun e w' => e = .returned (.bool true) ∧ Below w.heap.size w w' := by
  have hF' := answers_open hF
  have e51 := fun (w : World) (a : Option Addr) (n c : Nat) => Lib.run_eql_slice_nil (P := Ybaf.prog) w 51 23 a n c 0 0 Ybaf.underlying51
  subst hl
  go_enter Ybaf.func3, Ybaf.ntmps3
  go_wp2_with (first
    | (go_at_call 5; refine (add_any _).mono ?_; rintro e w' ⟨rfl, rfl⟩)
    | go_in)
  go_ret
  exact ⟨rfl, by go_grown⟩

set_option maxRecDepth 100000 in
set_option maxHeartbeats 800000 in
theorem act_over_true (F : Interp) (v sel : Int) (peer : Bool) (a : Option Addr) (len cap : Nat) (w : World) (hF : F.answers w.tape) (hs0 : 0 ≤ sel) (hs1 : sel ≤ 255) (hl : 20 < len) (h : len ≤ 1024) :
    Calls Ybaf.prog 3 #[.int .u16 v, .bool peer, .slice a len cap, .int .u8 sel, .bool true] w fun e w' => e = .returned (.bool true) ∧ Below w.heap.size w w' := by
  have hF' := answers_open hF
  have e51 := fun (w : World) (a : Option Addr) (n c : Nat) => Lib.run_eql_slice_nil (P := Ybaf.prog) w 51 23 a n c 0 0 Ybaf.underlying51
  have hl0 : ((len : Int) == 0) = false := beq_eq_false_iff_ne.2 (by omega)
  go_enter Ybaf.func3, Ybaf.ntmps3
  go_wp2_with (first
    | (go_at_call 5; refine (add_any _).mono ?_; rintro e w' ⟨rfl, rfl⟩)
    | go_in)
  go_ret
  exact ⟨rfl, by go_grown⟩

set_option maxRecDepth 100000 in
set_option maxHeartbeats 800000 in
theorem act_other_true (v sel : Int) (peer : Bool) (a : Option Addr) (len cap : Nat) (w : World) (hs0 : 0 ≤ sel) (hs1 : sel ≤ 255) (hl : 1 ≤ len) (hl20 : len ≤ 20) (hst : sel % 10 ≠ 7) :
    Calls Ybaf.prog 3 #[.int .u16 v, .bool peer, .slice a len cap, .int .u8 sel, .bool true] w fun e w' => e = .returned (.bool true) ∧ Below w.heap.size w w' := by
  have e51 := fun (w : World) (a : Option Addr) (n c : Nat) => Lib.run_eql_slice_nil (P := Ybaf.prog) w 51 23 a n c 0 0 Ybaf.underlying51
  have hl0 : ((len : Int) == 0) = false := beq_eq_false_iff_ne.2 (by omega)
  have hl2 : decide ((20 : Int) < (len : Int)) = false := decide_eq_false (by omega)
  have hst1 : (sel % 10 == 7) = false := beq_eq_false_iff_ne.2 hst
  have hst2 : (sel % 10 != 7) = true := bne_iff_ne.2 hst
  clear hst
  go_enter Ybaf.func3, Ybaf.ntmps3
  go_wp2_with (first
    | (go_at_call 5; refine (add_any _).mono ?_; rintro e w' ⟨rfl, rfl⟩)
    | go_in)
  go_ret
  exact ⟨rfl, by go_grown⟩
end Go.Proofs.YbulkjsmFmt

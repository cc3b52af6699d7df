import Derived.Test.YbulkjtoSteady
import Derived.Deep.QuietTactic
import Derived.BigQuiet
namespace Go.Proofs.Ybulkjto
open Go.RowKit
attribute [local go_sem ↓] Go.wp_at_zero Go.wp_at_succ

theorem steady_one (mb mo kb cap : Nat) (b : Int) (w : World) (hb0 : -2147483648 ≤ b) (hb1 : b < 2147483648) (hk : w.cell? ⟨mb, mo + 2, Option.none⟩ = some (.slice (some ⟨kb, 0, Option.none⟩) 1 cap))
    (h0 : w.cell? ⟨kb, 0, Option.none⟩ = some (.int .i64 b)) (h1 : w.cell? ⟨kb, 1, Option.none⟩ = some (.int .i64 1000000000)) :
    Calls Yba.prog 15 #[.pointer (some ⟨mb, mo, Option.none⟩)] w fun e w' => e = .returned (.float .f64 (fl b)) ∧ Below w.heap.size w w' := by
  by_cases h : b < 32768
  · exact steady_one_low mb mo kb cap b w hb0 h hk h0 h1
  · exact steady_one_high mb mo kb cap b w (by omega) (by omega) hk h0 h1

/-- 'Steady' at a meter gives x, in whatever world in which what lies below stands. -/
def SteadyIs (w : World) (p : Addr) (x : Nat) : Prop := ∀ w', Below w.heap.size w w' → Calls Yba.prog 15 #[.pointer (some p)] w' fun e w'' => e = .returned (.float .f64 x) ∧ Below w'.heap.size w' w''

theorem SteadyIs.later {w w1 : World} {p : Addr} {x : Nat} (h : SteadyIs w p x) (hb : Below w.heap.size w w1) : SteadyIs w1 p x := fun w' hb' => h w' (hb.trans (hb'.mono hb.size))

set_option maxRecDepth 100000 in
set_option maxHeartbeats 1600000 in
theorem speed_at (ub db : Nat) (x y z : Nat) (w : World) (hd : w.cell? ⟨ub, 4, Option.none⟩ = some (.pointer (some ⟨db, 0, Option.none⟩))) (h1 : SteadyIs w ⟨ub, 0, Option.none⟩ x) (h2 : SteadyIs w ⟨db, 0, Option.none⟩ y)
    (hmax : ∀ (w : World) ts t, (Builtin.max_ ts t #[.float .f64 x, .float .f64 y]).run Yba.prog w = .ok (.float .f64 z) w) :
    Calls Yba.prog 14 #[.pointer (some ⟨ub, 0, Option.none⟩)] w fun e w' => e = .returned (.float .f64 z) ∧ Below w.heap.size w w' := by
  have H1 : Hid (SteadyIs w ⟨ub, 0, Option.none⟩ x) := h1
  have H2 : Hid (SteadyIs w ⟨db, 0, Option.none⟩ y) := h2
  have l0 := World.block_lt_of_cell? w _ hd
  simp at l0
  clear h1 h2
  go_enter Yba.func14, Yba.ntmps14
  go_wp2_with fail
  go_region_held3 (fun w' => w'.cell? ⟨ub, 4, Option.none⟩ = some (.pointer (some ⟨db, 0, Option.none⟩)))
    (first
      | exact keep_drew hd
      | assumption)
    (first
      | (go_at_call_of 15 (Value.pointer (some ⟨ub, 0, Option.none⟩)); refine (H1.out _ ?_).mono ?_; exact (Below.refl _ _).drew; rintro e wA ⟨rfl, hA⟩; have hbA : Below w.heap.size w wA := ((Below.refl _ _).drew).trans hA; have cA : wA.cell? ⟨ub, 4, Option.none⟩ = some (.pointer (some ⟨db, 0, Option.none⟩)) := (hbA.cell (p := ⟨ub, 4, Option.none⟩) l0).trans hd)
      | (go_at_call_of 15 (Value.pointer (some ⟨db, 0, Option.none⟩)); refine (H2.out _ ?_).mono ?_; exact hbA; rintro e wB ⟨rfl, hB⟩; have hbB : Below w.heap.size w wB := hbA.trans (hB.mono hbA.size); have cB : wB.cell? ⟨ub, 4, Option.none⟩ = some (.pointer (some ⟨db, 0, Option.none⟩)) := (hbB.cell (p := ⟨ub, 4, Option.none⟩) l0).trans hd))
  clear cA cB hd
  go_wp2
  go_ret
  exact ⟨rfl, hbB⟩

/-- 'Speed' gives s, in whatever world in which what lies below stands. -/
def SpeedIs (w : World) (ub : Nat) (s : Nat) : Prop := ∀ w', Below w.heap.size w w' → Calls Yba.prog 14 #[.pointer (some ⟨ub, 0, Option.none⟩)] w' fun e w'' => e = .returned (.float .f64 s) ∧ Below w'.heap.size w' w''

theorem SpeedIs.later {w w1 : World} {ub s : Nat} (h : SpeedIs w ub s) (hb : Below w.heap.size w w1) : SpeedIs w1 ub s := fun w' hb' => h w' (hb.trans (hb'.mono hb.size))

/-- Is an upload of rate x, beside a link of speed s, clocked on its own? -/
def slowB (x s : Nat) : Bool := (D.order x 0 == some .gt) && (match D.mul 4609434218613702656 x with | some z => D.order z s == some .lt | none => false)

set_option maxRecDepth 100000 in
set_option maxHeartbeats 1600000 in
theorem alone_no (ub pb x s : Nat) (w : World) (hr : w.cell? ⟨pb, 3, Option.none⟩ = some (.float .f64 x)) (ho : (D.order x 0 == some .gt) = false) :
    Calls Yba.prog 12 #[.pointer (some ⟨ub, 0, Option.none⟩), .pointer (some ⟨pb, 0, Option.none⟩)] w fun e w' => e = .returned (.bool (slowB x s)) ∧ Below w.heap.size w w' := by
  have hs : Hid (slowB x s = false) := by show slowB x s = false; unfold slowB; rw [ho]; rfl
  have ho' : (FloatKind.f64.format.order x 0 == some .gt) = false := ho
  clear ho
  go_enter Yba.func12, Yba.ntmps12
  go_wp2_with fail
  go_quiet (fail)
  go_wp2
  go_ret
  exact ⟨by rw [hs.out]; rfl, below_drewN (Below.refl _ _) _⟩

set_option maxRecDepth 100000 in
set_option maxHeartbeats 1600000 in
theorem alone_yes (ub pb x s z : Nat) (w : World) (hr : w.cell? ⟨pb, 3, Option.none⟩ = some (.float .f64 x)) (ho : (D.order x 0 == some .gt) = true) (hz : D.mul 4609434218613702656 x = some z) (hS : SpeedIs w ub s) :
    Calls Yba.prog 12 #[.pointer (some ⟨ub, 0, Option.none⟩), .pointer (some ⟨pb, 0, Option.none⟩)] w fun e w' => e = .returned (.bool (slowB x s)) ∧ Below w.heap.size w w' := by
  have hs : Hid (slowB x s = (FloatKind.f64.format.order z s == some .lt)) := by show slowB x s = _; unfold slowB; rw [ho, hz]; rfl
  have ho' : (FloatKind.f64.format.order x 0 == some .gt) = true := ho
  have q1 := fun w => run_float_arith (P := Yba.prog) w .mul 27 .f64 4609434218613702656 x z hz
  have HS : Hid (SpeedIs w ub s) := hS
  have l0 := World.block_lt_of_cell? w _ hr
  simp at l0
  clear ho hz hS
  go_enter Yba.func12, Yba.ntmps12
  go_wp2_with fail
  go_region_held3 (fun w' => w'.cell? ⟨pb, 3, Option.none⟩ = some (.float .f64 x))
    (first
      | exact keep_drew hr
      | assumption)
    (first
      | (go_at_call 14; refine (HS.out _ ?_).mono ?_; exact (Below.refl _ _).drew; rintro e wA ⟨rfl, hA⟩; have hbA : Below w.heap.size w wA := ((Below.refl _ _).drew).trans hA; have cA : wA.cell? ⟨pb, 3, Option.none⟩ = some (.float .f64 x) := (hbA.cell (p := ⟨pb, 3, Option.none⟩) l0).trans hr))
  clear cA
  go_wp2
  go_ret
  exact ⟨by rw [hs.out]; rfl, hbA⟩

theorem alone_any (ub pb x s : Nat) (b : Bool) (w : World) (hr : w.cell? ⟨pb, 3, Option.none⟩ = some (.float .f64 x)) (hz : ∃ z, D.mul 4609434218613702656 x = some z) (hS : SpeedIs w ub s) (hb : slowB x s = b) :
    Calls Yba.prog 12 #[.pointer (some ⟨ub, 0, Option.none⟩), .pointer (some ⟨pb, 0, Option.none⟩)] w fun e w' => e = .returned (.bool b) ∧ Below w.heap.size w w' := by
  subst hb
  obtain ⟨z, hz⟩ := hz
  cases ho : (D.order x 0 == some .gt)
  · exact alone_no ub pb x s w hr ho
  · exact alone_yes ub pb x s z w hr ho hz hS

theorem ret_bool {a b : Bool} (h : a = b) : Ending.returned (.bool a) = .returned (.bool b) := by rw [h]

/-- How many of the first k are clocked on their own. -/
def cntB (xs : List Nat) (s k : Nat) : Nat := (xs.take k).countP (slowB · s)
theorem cntB_zero (xs : List Nat) (s : Nat) : cntB xs s 0 = 0 := by simp [cntB]
theorem cntB_le (xs : List Nat) (s k : Nat) : cntB xs s k ≤ k := by
  unfold cntB
  exact Nat.le_trans List.countP_le_length (List.length_take_le _ _)
theorem cntB_succ (xs : List Nat) (s k : Nat) {x : Nat} {b : Bool} (h : xs[k]? = some x) (hb : slowB x s = b) : cntB xs s (k + 1) = cntB xs s k + (if b then 1 else 0) := by
  unfold cntB
  rw [List.take_add_one, h]
  subst hb
  simp [List.countP_append, List.countP_cons]

/-- The uploads in memory: their pointers, and behind each its rate. -/
structure Ups (w : World) (ub : Nat) (n : Nat) (xs : List Nat) (g cap : Nat) (ps : List Nat) : Prop where
  len : xs.length = n
  plen : ps.length = n
  field : w.cell? ⟨ub, 5, Option.none⟩ = some (.slice (some ⟨g, 0, Option.none⟩) n cap)
  ptr : ∀ (j p : Nat), ps[j]? = some p → w.cell? ⟨g, j, Option.none⟩ = some (.pointer (some ⟨p, 0, Option.none⟩))
  rate : ∀ (j p x : Nat), ps[j]? = some p → xs[j]? = some x → w.cell? ⟨p, 3, Option.none⟩ = some (.float .f64 x)
  num : ∀ x ∈ xs, ∃ z, D.mul 4609434218613702656 x = some z

set_option maxRecDepth 100000 in
set_option maxHeartbeats 1600000 in
theorem held_any (ub n s g cap : Nat) (xs ps : List Nat) (w : World) (hn : n ≤ 100000) (hU : Ups w ub n xs g cap ps) (hS : SpeedIs w ub s) :
    Calls Yba.prog 8 #[.pointer (some ⟨ub, 0, Option.none⟩)] w fun e w' => e = .returned (.bool (decide (n < 2 * cntB xs s n))) ∧ Below w.heap.size w w' := by
  have hf := hU.field
  have lf := World.block_lt_of_cell? w _ hf
  simp at lf
  have HU : Hid (Ups w ub n xs g cap ps) := hU
  have HS : Hid (SpeedIs w ub s) := hS
  clear hU hS
  go_enter Yba.func8, Yba.ntmps8
  go_wp2
  go_loopw [3, 11] (fun sl i wr => ∃ k : Nat, k ≤ n ∧ i = .int .i64 k ∧ sl = .int .i64 (cntB xs s k) ∧ Below w.heap.size w wr) (fun _ i _ => n - (intOf i).toNat)
  case atStart => exact ⟨0, Nat.zero_le _, rfl, by rw [cntB_zero]; rfl, Below.refl _ _⟩
  case round =>
    obtain ⟨k, hk, rfl, rfl, hB⟩ := hrel
    have hle := cntB_le xs s k
    by_cases hlt : k < n
    · obtain ⟨x, hx⟩ : ∃ x, xs[k]? = some x := ⟨_, List.getElem?_eq_getElem (by have := HU.out.len; omega)⟩
      obtain ⟨p, hp⟩ : ∃ p, ps[k]? = some p := ⟨_, List.getElem?_eq_getElem (by have := HU.out.plen; omega)⟩
      have c1 := HU.out.ptr k p hp
      have c2 := HU.out.rate k p x hp hx
      have c3 := HU.out.num x (List.mem_of_getElem? hx)
      have c1' : wr.cell? ⟨g, k, Option.none⟩ = some (.pointer (some ⟨p, 0, Option.none⟩)) := (hB.cell (World.block_lt_of_cell? w _ c1)).trans c1
      have HR : Hid (wr.cell? ⟨p, 3, Option.none⟩ = some (.float .f64 x)) := (hB.cell (World.block_lt_of_cell? w _ c2)).trans c2
      have HZ : Hid (∃ z, D.mul 4609434218613702656 x = some z) := c3
      obtain ⟨b, hb⟩ : ∃ b, slowB x s = b := ⟨_, rfl⟩
      have Hsucc : Hid (cntB xs s (k + 1) = cntB xs s k + (if b then 1 else 0)) := cntB_succ xs s k hx hb
      have Hb : Hid (slowB x s = b) := hb
      clear c1 c2 c3 hx hp hb
      cases b
      all_goals
        go_wp2_with (go_at_call 12; refine (alone_any ub p x s _ _ HR.out HZ.out (HS.out.later hB) Hb.out).mono ?_; rintro e w1 ⟨rfl, hb1⟩)
        go_roundw
        case rel => exact ⟨k + 1, by omega, by go_num, by rw [Hsucc.out]; simp, hB.trans (hb1.mono hB.size)⟩
        case measure => simp [intOf]; omega
    · have hkn : k = n := by omega
      subst hkn
      have f2 : wr.cell? ⟨ub, 5, Option.none⟩ = some (.slice (some ⟨g, 0, Option.none⟩) k cap) := (hB.cell lf).trans hf
      go_wp2
      go_ret
      exact ⟨ret_bool (by rw [decide_eq_decide]; omega), hB⟩
end Go.Proofs.Ybulkjto

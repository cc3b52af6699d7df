import Derived.Test.YbulkjtoSteady
namespace Go.Proofs.Ybulkjto
open Go.RowKit
attribute [local go_sem ↓] Go.wp_at_zero Go.wp_at_succ
theorem keep_frozen {w : World} {b o : Nat} (h : w.frozen? ⟨b, o, Option.none⟩ = false) (hl : b < w.heap.size) (x : Obj) : (w.alloc x).drew.drew.frozen? ⟨b, o, Option.none⟩ = false := by
  have hb : Below w.heap.size w (w.alloc x).drew.drew := ((Below.refl _ _).alloc (Nat.le_refl _) _).drew.drew
  rw [hb.frozen (p := ⟨b, o, Option.none⟩) hl]; exact h

theorem run_max_selfHigh {P : Program} (w : World) (ts : Array TypeId) (t : TypeId) (x : Nat) (h : D.order x x = some .eq) : (Builtin.max_ ts t #[.float .f64 x, .float .f64 x]).run P w = .ok (.float .f64 x) w := by
  have h' : FloatKind.f64.format.order x x = some .eq := h
  simp [Builtin.max_, Builtin.max2, h']
theorem fl_selfHigh (n : Int) (h : n.natAbs < 2 ^ 40) : D.order (fl n) (fl n) = some .eq := by
  obtain ⟨M, i, hr, _, _⟩ := fl_number n h
  exact order_self _ hr

set_option maxRecDepth 100000 in
set_option maxHeartbeats 3200000 in
theorem steady_two_high (mb mo kb cap : Nat) (b : Int) (w : World) (hb0 : 32768 ≤ b) (hb1 : b < 4294967296) (hk : w.cell? ⟨mb, mo + 2, Option.none⟩ = some (.slice (some ⟨kb, 0, Option.none⟩) 2 cap))
    (h0 : w.cell? ⟨kb, 0, Option.none⟩ = some (.int .i64 b)) (h1 : w.cell? ⟨kb, 1, Option.none⟩ = some (.int .i64 1000000000)) (h2 : w.cell? ⟨kb, 2, Option.none⟩ = some (.int .i64 b)) (h3 : w.cell? ⟨kb, 3, Option.none⟩ = some (.int .i64 1000000000)) :
    Calls Yba.prog 15 #[.pointer (some ⟨mb, mo, Option.none⟩)] w fun e w' => e = .returned (.float .f64 (fl b)) ∧ Below w.heap.size w w' := by
  have l0 := World.block_lt_of_cell? w _ hk
  have l1 := World.block_lt_of_cell? w _ h0
  have n0 := World.new_ne w _ hk
  have n1 := World.new_ne w _ h0
  simp at l0 l1 n0 n1
  have om : D.order 0 (fl b) = some .lt := by rw [order_zero' b (by omega), cmp_lt (by omega)]
  have oz : FloatKind.f64.format.order (fl b) 0 = some .gt := by rw [show FloatKind.f64.format = D from rfl, order_zero b (by omega), cmp_gt (by omega)]
  have mx := fun w ts t => run_max_lt (P := Yba.prog) w ts t 0 (fl b) om
  have my := fun w ts t => run_max_selfHigh (P := Yba.prog) w ts t (fl b) (fl_selfHigh b (by omega))
  clear om
  go_enter Yba.func15, Yba.ntmps15
  go_wp2
  go_loopw [3, 21] (fun m i wr => ∃ k x : Nat, k ≤ 2 ∧ i = .int .i64 k ∧ m = .float .f64 x ∧ ((k = 0 ∧ x = 0) ∨ (0 < k ∧ x = fl b)) ∧ wr.cell? ⟨w.heap.size, 0, Option.none⟩ = some (.int .i64 ((k : Int) * b)) ∧ wr.cell? ⟨w.heap.size, 1, Option.none⟩ = some (.int .i64 ((k : Int) * 1000000000)) ∧
      wr.frozen? ⟨w.heap.size, 0, Option.none⟩ = false ∧ wr.frozen? ⟨w.heap.size, 1, Option.none⟩ = false ∧ Below w.heap.size w wr) (fun _ i _ => 2 - (intOf i).toNat)
  case atStart => exact ⟨0, 0, by omega, rfl, rfl, .inl ⟨rfl, rfl⟩, by simp [go_sem], by simp [go_sem], by simp [go_sem], by simp [go_sem], by go_grown⟩
  case round =>
    obtain ⟨k, x, hk2, rfl, rfl, hx, d0, d1, z0, z1, hB⟩ := hrel
    have la := World.block_lt_of_cell? wr _ d0
    simp at la
    have q2 : wr.cell? ⟨mb, mo + 2, Option.none⟩ = some (.slice (some ⟨kb, 0, Option.none⟩) 2 cap) := (hB.cell (p := ⟨mb, mo + 2, Option.none⟩) l0).trans hk
    have s0 : wr.cell? ⟨kb, 0, Option.none⟩ = some (.int .i64 b) := (hB.cell (p := ⟨kb, 0, Option.none⟩) l1).trans h0
    have s1 : wr.cell? ⟨kb, 1, Option.none⟩ = some (.int .i64 1000000000) := (hB.cell (p := ⟨kb, 1, Option.none⟩) l1).trans h1
    have s2 : wr.cell? ⟨kb, 2, Option.none⟩ = some (.int .i64 b) := (hB.cell (p := ⟨kb, 2, Option.none⟩) l1).trans h2
    have s3 : wr.cell? ⟨kb, 3, Option.none⟩ = some (.int .i64 1000000000) := (hB.cell (p := ⟨kb, 3, Option.none⟩) l1).trans h3
    have lm : mb < wr.heap.size := by omega
    have lk : kb < wr.heap.size := by omega
    have lm' : mb ≠ w.heap.size := by omega
    have lk' : kb ≠ w.heap.size := by omega
    clear hk h0 h1 h2 h3 n0 n1
    have hcase : k = 0 ∨ k = 1 ∨ k = 2 := by omega
    rcases hcase with rfl | rfl | rfl
    · obtain rfl : x = 0 := by rcases hx with ⟨_, h⟩ | ⟨h, _⟩; exact h; omega
      clear hx
      simp at d0 d1
      go_wp2
      refine wp_loop_rounds 2 ?_
      rw [rounds_succ]
      go_wp2
      go_region
      go_wp2
      go_region
      go_wp2
      rw [rounds_succ]
      go_wp2_with (go_at_call 17; refine (rate_at b 1000000000 4607182418800017408 (fl b) _ sec_one (div_one b (by omega))).mono ?_; rintro e w2 ⟨rfl, hb2⟩)
      have hz2 := hb2.size
      simp at hz2
      have xA0 : w2.cell? ⟨w.heap.size, 0, Option.none⟩ = some (.int .i64 0) := (hb2.cell (p := ⟨w.heap.size, 0, Option.none⟩) (by simp; omega)).trans (keep_drew (keep_drew (keep_alloc d0 _)))
      have xA1 : w2.cell? ⟨w.heap.size, 1, Option.none⟩ = some (.int .i64 0) := (hb2.cell (p := ⟨w.heap.size, 1, Option.none⟩) (by simp; omega)).trans (keep_drew (keep_drew (keep_alloc d1 _)))
      have y0 : w2.frozen? ⟨w.heap.size, 0, Option.none⟩ = false := (hb2.frozen (p := ⟨w.heap.size, 0, Option.none⟩) (by simp; omega)).trans (keep_frozen z0 la _)
      have y1 : w2.frozen? ⟨w.heap.size, 1, Option.none⟩ = false := (hb2.frozen (p := ⟨w.heap.size, 1, Option.none⟩) (by simp; omega)).trans (keep_frozen z1 la _)
      have xm : w2.cell? ⟨mb, mo + 2, Option.none⟩ = some (.slice (some ⟨kb, 0, Option.none⟩) 2 cap) := (hb2.cell (p := ⟨mb, mo + 2, Option.none⟩) (by simp; omega)).trans (keep_drew (keep_drew (keep_alloc q2 _)))
      have xk0 : w2.cell? ⟨kb, 0, Option.none⟩ = some (.int .i64 b) := (hb2.cell (p := ⟨kb, 0, Option.none⟩) (by simp; omega)).trans (keep_drew (keep_drew (keep_alloc s0 _)))
      have xk1 : w2.cell? ⟨kb, 1, Option.none⟩ = some (.int .i64 1000000000) := (hb2.cell (p := ⟨kb, 1, Option.none⟩) (by simp; omega)).trans (keep_drew (keep_drew (keep_alloc s1 _)))
      have xk2 : w2.cell? ⟨kb, 2, Option.none⟩ = some (.int .i64 b) := (hb2.cell (p := ⟨kb, 2, Option.none⟩) (by simp; omega)).trans (keep_drew (keep_drew (keep_alloc s2 _)))
      have xk3 : w2.cell? ⟨kb, 3, Option.none⟩ = some (.int .i64 1000000000) := (hb2.cell (p := ⟨kb, 3, Option.none⟩) (by simp; omega)).trans (keep_drew (keep_drew (keep_alloc s3 _)))
      have hB2 : Below w.heap.size w w2 := Below.trans hB (Below.trans (by go_grown) (hb2.mono (by simp; omega)))
      clear hb2 d0 d1 z0 z1 q2 s0 s1 s2 s3
      go_region
      go_wp2
      go_region
      go_wp2
      go_roundw
      case rel => exact ⟨1, fl b, by omega, rfl, rfl, .inr ⟨by omega, rfl⟩, by first | (simp [go_sem, *]; done) | (simp [go_sem, *]; omega), by first | (simp [go_sem, *]; done) | (simp [go_sem, *]; omega), by simp [go_sem, *], by simp [go_sem, *], by go_grown⟩
      case measure => simp [intOf]
    · obtain rfl : x = fl b := by rcases hx with ⟨h, _⟩ | ⟨_, h⟩; omega; exact h
      clear hx
      simp at d0 d1
      go_wp2
      refine wp_loop_rounds 2 ?_
      rw [rounds_succ]
      go_wp2
      go_region
      go_wp2
      go_region
      go_wp2
      rw [rounds_succ]
      go_wp2_with (go_at_call 17; refine (rate_at b 1000000000 4607182418800017408 (fl b) _ sec_one (div_one b (by omega))).mono ?_; rintro e w2 ⟨rfl, hb2⟩)
      have hz2 := hb2.size
      simp at hz2
      have xA0 : w2.cell? ⟨w.heap.size, 0, Option.none⟩ = some (.int .i64 b) := (hb2.cell (p := ⟨w.heap.size, 0, Option.none⟩) (by simp; omega)).trans (keep_drew (keep_drew (keep_alloc d0 _)))
      have xA1 : w2.cell? ⟨w.heap.size, 1, Option.none⟩ = some (.int .i64 1000000000) := (hb2.cell (p := ⟨w.heap.size, 1, Option.none⟩) (by simp; omega)).trans (keep_drew (keep_drew (keep_alloc d1 _)))
      have y0 : w2.frozen? ⟨w.heap.size, 0, Option.none⟩ = false := (hb2.frozen (p := ⟨w.heap.size, 0, Option.none⟩) (by simp; omega)).trans (keep_frozen z0 la _)
      have y1 : w2.frozen? ⟨w.heap.size, 1, Option.none⟩ = false := (hb2.frozen (p := ⟨w.heap.size, 1, Option.none⟩) (by simp; omega)).trans (keep_frozen z1 la _)
      have xm : w2.cell? ⟨mb, mo + 2, Option.none⟩ = some (.slice (some ⟨kb, 0, Option.none⟩) 2 cap) := (hb2.cell (p := ⟨mb, mo + 2, Option.none⟩) (by simp; omega)).trans (keep_drew (keep_drew (keep_alloc q2 _)))
      have xk0 : w2.cell? ⟨kb, 0, Option.none⟩ = some (.int .i64 b) := (hb2.cell (p := ⟨kb, 0, Option.none⟩) (by simp; omega)).trans (keep_drew (keep_drew (keep_alloc s0 _)))
      have xk1 : w2.cell? ⟨kb, 1, Option.none⟩ = some (.int .i64 1000000000) := (hb2.cell (p := ⟨kb, 1, Option.none⟩) (by simp; omega)).trans (keep_drew (keep_drew (keep_alloc s1 _)))
      have xk2 : w2.cell? ⟨kb, 2, Option.none⟩ = some (.int .i64 b) := (hb2.cell (p := ⟨kb, 2, Option.none⟩) (by simp; omega)).trans (keep_drew (keep_drew (keep_alloc s2 _)))
      have xk3 : w2.cell? ⟨kb, 3, Option.none⟩ = some (.int .i64 1000000000) := (hb2.cell (p := ⟨kb, 3, Option.none⟩) (by simp; omega)).trans (keep_drew (keep_drew (keep_alloc s3 _)))
      have hB2 : Below w.heap.size w w2 := Below.trans hB (Below.trans (by go_grown) (hb2.mono (by simp; omega)))
      clear hb2 d0 d1 z0 z1 q2 s0 s1 s2 s3
      go_region
      go_wp2
      go_region
      go_wp2
      go_roundw
      case rel => exact ⟨2, fl b, by omega, rfl, rfl, .inr ⟨by omega, rfl⟩, by first | (simp [go_sem, *]; done) | (simp [go_sem, *]; omega), by first | (simp [go_sem, *]; done) | (simp [go_sem, *]; omega), by simp [go_sem, *], by simp [go_sem, *], by go_grown⟩
      case measure => simp [intOf]
    · obtain rfl : x = fl b := by rcases hx with ⟨h, _⟩ | ⟨_, h⟩; omega; exact h
      clear d0 d1 hx
      go_wp2
      go_ret
      exact ⟨rfl, hB⟩
end Go.Proofs.Ybulkjto

import Derived.Test.YbulkjtoBuild
namespace Go.Proofs.Ybulkjto
open Go.RowKit

theorem run_max_self {P : Program} (w : World) (ts : Array TypeId) (t : TypeId) (x : Nat) (h : D.order x x = some .eq) : (Builtin.max_ ts t #[.float .f64 x, .float .f64 x]).run P w = .ok (.float .f64 x) w := by
  have h' : FloatKind.f64.format.order x x = some .eq := h
  simp [Builtin.max_, Builtin.max2, h']

theorem fl_self (n : Int) (h : n.natAbs < 2 ^ 40) : D.order (fl n) (fl n) = some .eq := by
  obtain ⟨M, i, hr, _, _⟩ := fl_number n h
  exact order_self _ hr
theorem fl_mul (n : Int) (h : n.natAbs < 2 ^ 40) : ∃ z, D.mul 4609434218613702656 (fl n) = some z := by
  obtain ⟨M, i, hr, _, _⟩ := fl_number n h
  exact mul_some _ _ read_onehalf hr

/-- What was built has its speed. -/
theorem speed_built {w w' : World} {speed : Int} (hs0 : -2147483648 ≤ speed) (hs1 : speed < 2147483648)
    (hk : w'.cell? ⟨w.heap.size + 1 + 1 + 1, 2, Option.none⟩ = some (keptV w)) (hd : w'.cell? ⟨w.heap.size + 1 + 1 + 1, 4, Option.none⟩ = some (downV w)) (hlow : Below (w.heap.size + 1 + 1 + 1) (buildW w speed) w') :
    SpeedIs w' (w.heap.size + 1 + 1 + 1) (fl speed) := by
  have a0 : w'.cell? ⟨w.heap.size, 0, Option.none⟩ = some (.int .i64 speed) := (hlow.cell (by show w.heap.size < _; omega)).trans (by unfold buildW; simp [go_sem])
  have a1 : w'.cell? ⟨w.heap.size, 1, Option.none⟩ = some (.int .i64 1000000000) := (hlow.cell (by show w.heap.size < _; omega)).trans (by unfold buildW; simp [go_sem])
  have b0 : w'.cell? ⟨w.heap.size + 1 + 1, 0, Option.none⟩ = some (.int .i64 speed) := (hlow.cell (by show w.heap.size + 1 + 1 < _; omega)).trans (by unfold buildW; simp [go_sem])
  have b1 : w'.cell? ⟨w.heap.size + 1 + 1, 1, Option.none⟩ = some (.int .i64 1000000000) := (hlow.cell (by show w.heap.size + 1 + 1 < _; omega)).trans (by unfold buildW; simp [go_sem])
  have m2 : w'.cell? ⟨w.heap.size + 1, 2, Option.none⟩ = some (.slice (some ⟨w.heap.size, 0, Option.none⟩) 1 1) := (hlow.cell (by show w.heap.size + 1 < _; omega)).trans (by unfold buildW; simp [go_sem])
  have st1 : SteadyIs w' ⟨w.heap.size + 1 + 1 + 1, 0, Option.none⟩ (fl speed) := fun w1 hb =>
    steady_one _ 0 _ 1 speed w1 hs0 hs1 ((hb.cell (World.block_lt_of_cell? w' _ hk)).trans hk) ((hb.cell (World.block_lt_of_cell? w' _ b0)).trans b0) ((hb.cell (World.block_lt_of_cell? w' _ b1)).trans b1)
  have st2 : SteadyIs w' ⟨w.heap.size + 1, 0, Option.none⟩ (fl speed) := fun w1 hb =>
    steady_one _ 0 _ 1 speed w1 hs0 hs1 ((hb.cell (World.block_lt_of_cell? w' _ m2)).trans m2) ((hb.cell (World.block_lt_of_cell? w' _ a0)).trans a0) ((hb.cell (World.block_lt_of_cell? w' _ a1)).trans a1)
  exact fun w1 hb => speed_at _ _ (fl speed) (fl speed) (fl speed) w1 ((hb.cell (World.block_lt_of_cell? w' _ hd)).trans hd) (st1.later hb) (st2.later hb) (fun w ts t => run_max_self w ts t _ (fl_self speed (by omega)))

/-- What was built has its uploads. -/
theorem ups_built {W0 w' : World} {B ub : Nat} {L : List Int} {n : Nat} {v : Value} {ps : List Nat} {kv dv : Value} (h : Built W0 w' B ub L n v ps kv dv) (hn : 0 < n) (hl : L.length = n) (hL : ∀ r ∈ L, r.natAbs < 2 ^ 40) :
    ∃ g cap, Ups w' ub n (L.map fl) g cap ps := by
  obtain ⟨g, cap, rfl, _, _⟩ := h.own.form hn
  refine ⟨g, cap, by simp [hl], h.plen, h.fld, ?_, ?_, ?_⟩
  · intro j p hj
    have hown := h.own
    obtain ⟨_, ho⟩ := hown
    rcases ho with ⟨e, _⟩ | ⟨g', cap', cur, e, _, hh, _, _, _, ht⟩
    · cases e
    · cases e
      have := World.news_of_block hh j (ptrV p) (by
        have h2 : (ps.map ptrV)[j]? = some (ptrV p) := by simp [hj]
        rw [← ht, List.getElem?_take] at h2
        split at h2
        · exact h2
        · cases h2)
      have hadd : (⟨g, 0, Option.none⟩ : Addr).add j = ⟨g, j, Option.none⟩ := by unfold Addr.add; split <;> simp_all
      rw [hadd] at this
      exact this
  · intro j p x hj hx
    obtain ⟨_, _, _, d⟩ := h.pt j p hj
    rw [d]
    simp only [List.getElem?_map, Option.map_eq_some_iff] at hx
    obtain ⟨r, hr, rfl⟩ := hx
    simp [List.getD, hr]
  · intro x hx
    obtain ⟨r, hr, rfl⟩ := List.mem_map.1 hx
    exact fl_mul r (hL r hr)

set_option maxHeartbeats 400000 in
theorem count_long (speed : Int) (a : Option Addr) (n cap : Nat) (w : World) (h : 1024 < n) :
    Calls Yba.prog 4 #[.int .i32 speed, .slice a n cap] w fun e w' => e = .returned (.bool true) ∧ Below w.heap.size w w' := by
  go_enter Yba.func4, Yba.ntmps4
  go_wp2
  go_ret
  exact ⟨rfl, Below.refl _ _⟩

set_option maxRecDepth 100000 in
set_option maxHeartbeats 1600000 in
theorem count_zero (speed : Int) (a : Option Addr) (cap : Nat) (w : World) (hs0 : -2147483648 ≤ speed) (hs1 : speed < 2147483648) :
    Calls Yba.prog 4 #[.int .i32 speed, .slice a 0 cap] w fun e w' => e = .returned (.bool true) ∧ Below w.heap.size w w' := by
  go_enter Yba.func4, Yba.ntmps4
  go_wp2
  go_rounds 2
  go_rounds 1
  go_rounds 1
  go_rounds 1
  go_ret
  exact ⟨rfl, by go_grown⟩

set_option maxRecDepth 100000 in
set_option maxHeartbeats 1600000 in
theorem count_some (speed : Int) (b off n cap : Nat) (L : List Int) (w : World) (hs0 : -2147483648 ≤ speed) (hs1 : speed < 2147483648) (hn0 : 0 < n) (hn : n ≤ 1024) (hl : L.length = n) (hb : b < w.heap.size) (hc : ∀ (j : Nat) (r : Int), L[j]? = some r → w.cell? ⟨b, off + j, Option.none⟩ = some (.int .i32 r))
    (hL : ∀ r ∈ L, r.natAbs < 2 ^ 40) :
    Calls Yba.prog 4 #[.int .i32 speed, .slice (some ⟨b, off, Option.none⟩) n cap] w fun e w' => e = .returned (.bool true) ∧ Below w.heap.size w w' := by
  have HBu := build_any speed b off n cap L w hs0 hs1 hn hl hb hc
  have HL : Hid (L.length = n) := hl
  have HC : Hid (∀ (j : Nat) (r : Int), L[j]? = some r → w.cell? ⟨b, off + j, Option.none⟩ = some (.int .i32 r)) := hc
  have HLb : Hid (∀ r ∈ L, r.natAbs < 2 ^ 40) := hL
  clear hc hl hL
  go_enter Yba.func4, Yba.ntmps4
  go_wp2_with fail
  refine HBu.mono ?_
  clear HBu
  rintro e w1 ⟨rfl, v, ps, hB⟩
  have hb1 : Below w.heap.size w w1 := (buildW_below w speed).trans (hB.low.mono (by omega))
  have hSp : Hid (SpeedIs w1 (w.heap.size + 1 + 1 + 1) (fl speed)) := speed_built hs0 hs1 hB.kept hB.down hB.low
  obtain ⟨g, gc, hU⟩ := ups_built hB hn0 HL.out HLb.out
  have HU : Hid (Ups w1 (w.heap.size + 1 + 1 + 1) n (L.map fl) g gc ps) := hU
  clear hB hU
  go_wp2
  go_loop [6, 19] (fun sl i => ∃ k : Nat, k ≤ n ∧ i = .int .i64 k ∧ sl = .int .i64 (cntB (L.map fl) (fl speed) k)) (fun _ i => n - (intOf i).toNat)
  case atStart => exact ⟨0, Nat.zero_le _, rfl, by rw [cntB_zero]; rfl⟩
  case round =>
    obtain ⟨k, hk, rfl, rfl⟩ := hrel
    have hle := cntB_le (L.map fl) (fl speed) k
    by_cases hlt : k < n
    · obtain ⟨r, hr⟩ : ∃ r, L[k]? = some r := ⟨_, List.getElem?_eq_getElem (by have := HL.out; omega)⟩
      have c1 : w1.cell? ⟨b, off + k, Option.none⟩ = some (.int .i32 r) := (hb1.cell (p := ⟨b, off + k, Option.none⟩) hb).trans (HC.out k r hr)
      have hx : (L.map fl)[k]? = some (fl r) := by simp [hr]
      obtain ⟨z, hz⟩ := fl_mul r (HLb.out r (List.mem_of_getElem? hr))
      have q1 := run_float_arith (P := Yba.prog) w1 .mul 27 .f64 4609434218613702656 (fl r) z hz
      have Hs : Hid (slowB (fl r) (fl speed) = ((D.order (fl r) 0 == some .gt) && (D.order z (fl speed) == some .lt))) := by show slowB _ _ = _; unfold slowB; rw [hz]
      have Hsucc := fun bb (h : slowB (fl r) (fl speed) = bb) => cntB_succ (L.map fl) (fl speed) k hx h
      have HSu : Hid (∀ bb, slowB (fl r) (fl speed) = bb → cntB (L.map fl) (fl speed) (k + 1) = cntB (L.map fl) (fl speed) k + (if bb then 1 else 0)) := Hsucc
      clear Hsucc hz hx hr
      cases ho : (FloatKind.f64.format.order (fl r) 0 == some .gt)
      · have hb0 : slowB (fl r) (fl speed) = false := by rw [Hs.out]; rw [show D = FloatKind.f64.format from rfl, ho]; rfl
        have E := HSu.out _ hb0
        have HE : Hid (cntB (L.map fl) (fl speed) (k + 1) = cntB (L.map fl) (fl speed) k) := by show _ = _; rw [E]; rfl
        clear E hb0
        go_wp2
        go_round
        case rel => exact ⟨k + 1, by omega, by go_num, by rw [HE.out]⟩
        case measure => simp [intOf]; omega
      · cases hq : (FloatKind.f64.format.order z (fl speed) == some .lt)
        · have hb0 : slowB (fl r) (fl speed) = false := by rw [Hs.out]; rw [show D = FloatKind.f64.format from rfl, ho, hq]; rfl
          have E := HSu.out _ hb0
          have HE : Hid (cntB (L.map fl) (fl speed) (k + 1) = cntB (L.map fl) (fl speed) k) := by show _ = _; rw [E]; rfl
          clear E hb0
          go_wp2
          go_round
          case rel => exact ⟨k + 1, by omega, by go_num, by rw [HE.out]⟩
          case measure => simp [intOf]; omega
        · have hb0 : slowB (fl r) (fl speed) = true := by rw [Hs.out]; rw [show D = FloatKind.f64.format from rfl, ho, hq]; rfl
          have E := HSu.out _ hb0
          have HE : Hid (cntB (L.map fl) (fl speed) (k + 1) = cntB (L.map fl) (fl speed) k + 1) := by show _ = _; rw [E]; rfl
          clear E hb0
          go_wp2
          go_round
          case rel => exact ⟨k + 1, by omega, by go_num, by rw [HE.out]; go_num⟩
          case measure => simp [intOf]; omega
    · have hkn : k = n := by omega
      subst hkn
      go_wp2_with (go_at_call 8; refine (held_any _ k (fl speed) g gc (L.map fl) ps _ (by omega) HU.out hSp.out).mono ?_; rintro e w2 ⟨rfl, hb2⟩)
      go_ret
      refine ⟨ret_bool ?_, hb1.trans (hb2.mono hb1.size)⟩
      rw [show decide (k < 2 * cntB (L.map fl) (fl speed) k) = decide ((k : Int) < 2 * (cntB (L.map fl) (fl speed) k : Int)) from by rw [decide_eq_decide]; omega]
      simp
end Go.Proofs.Ybulkjto

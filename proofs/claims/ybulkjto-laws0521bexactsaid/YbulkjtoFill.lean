import Derived.Test.YbulkjtoMax
namespace Go.Proofs.Ybulkjto
open Go.RowKit

/-- What has been filled in after k rates. -/
structure Filled (w wr : World) (n : Nat) (L : List Int) (k : Nat) (ps : List Nat) (xs : List Value) : Prop where
  plen : ps.length = k
  own : wr.ownsRow w.heap.size 26 1 (.slice (some ⟨w.heap.size, 0, Option.none⟩) n n) n xs
  ptr : ∀ (j p : Nat), ps[j]? = some p → xs[j]? = some (ptrV p)
  pt : ∀ (j p : Nat), ps[j]? = some p → w.heap.size < p ∧ p < wr.heap.size ∧ wr.cell? ⟨p, 3, Option.none⟩ = some (.float .f64 (fl (L.getD j 0)))
  low : Below w.heap.size w wr

theorem Filled.push {w wr : World} {n : Nat} {L : List Int} {k : Nat} {ps : List Nat} {xs : List Value} (h : Filled w wr n L k ps xs) (hk : k < n) {cs : Array Value} {r : Int} (hcs : cs[3]? = some (.float .f64 (fl r))) (hr : L.getD k 0 = r) :
    Filled w ((wr.setCell ⟨w.heap.size, k, Option.none⟩ (ptrV wr.heap.size)).alloc (.cells cs 35)) n L (k + 1) (ps ++ [wr.heap.size]) (xs.set k (ptrV wr.heap.size)) := by
  have hlen : xs.length = n := by have := h.own.1; simpa using this
  have hg : w.heap.size < wr.heap.size := by
    rcases h.own.2 with ⟨e, _⟩ | ⟨g, cap, cur, e, _, hh, _⟩
    · cases e
    · cases e; exact (Array.getElem?_eq_some_iff.1 hh).1
  refine ⟨by simp [h.plen], (h.own.stored k _).1.alloc _, ?_, ?_, ?_⟩
  · intro j p hj
    by_cases hjk : j < k
    · rw [List.getElem?_append_left (by rw [h.plen]; exact hjk)] at hj
      rw [List.getElem?_set_ne (by omega)]
      exact h.ptr j p hj
    · have hjk' : j = k := by
        have : j < (ps ++ [wr.heap.size]).length := (List.getElem?_eq_some_iff.1 hj).1
        simp [h.plen] at this
        omega
      subst hjk'
      rw [List.getElem?_append_right (by rw [h.plen]; exact Nat.le_refl _)] at hj
      simp [h.plen] at hj
      subst hj
      simp [hlen, hk]
  · intro j p hj
    by_cases hjk : j < k
    · rw [List.getElem?_append_left (by rw [h.plen]; exact hjk)] at hj
      obtain ⟨a, b, c⟩ := h.pt j p hj
      refine ⟨a, by simp; omega, keep_alloc ?_ _⟩
      rw [World.cell?_of_block (w := wr) (Below.heap_setCell wr _ _ _ (by show p ≠ w.heap.size; omega))]
      exact c
    · have hjk' : j = k := by
        have : j < (ps ++ [wr.heap.size]).length := (List.getElem?_eq_some_iff.1 hj).1
        simp [h.plen] at this
        omega
      subst hjk'
      rw [List.getElem?_append_right (by rw [h.plen]; exact Nat.le_refl _)] at hj
      simp [h.plen] at hj
      subst hj
      refine ⟨hg, by simp, ?_⟩
      rw [hr]
      simp [go_sem, hcs]
  · exact (h.low.setCell (p := ⟨w.heap.size, k, Option.none⟩) (Nat.le_refl _) _).alloc (by simp; omega) _

theorem below_of {w w1 : World} (h : w.grownBy w1 Option.none) : Below w.heap.size w w1 := (Below.refl _ _).grown h (Nat.le_refl _) (fun k hk => by cases hk)

/-- The uplink is laid. -/
def exactW (w W : World) (n : Nat) (b f4 P : Int) : World :=
  ((W.alloc (.cells #[.int .i64 b, .int .i64 1000000000, .int .i64 b, .int .i64 1000000000] 39)).alloc
    (.cells #[.int .i64 0, .int .i64 0, .slice Option.none 0 0, .int .i64 0] 42)).alloc
    (.cells #[.int .i64 0, .int .i64 0, .slice (some ⟨W.heap.size, 0, Option.none⟩) 2 2, .int .i64 f4, .pointer (some ⟨W.heap.size + 1, 0, Option.none⟩), .slice (some ⟨w.heap.size, 0, Option.none⟩) n n, .int .u64 0, .int .i64 0, .pointer Option.none, .int .i64 0, .int .u64 0, .int .i64 0, .pointer Option.none, .int .i64 0, .bool false, .int .i64 P, .int .i64 0] 45)

theorem max_zero (b : Int) (hb0 : 0 ≤ b) (hb1 : b < 4294967296) (w : World) (ts : Array TypeId) (t : TypeId) : (Builtin.max_ ts t #[.float .f64 (fl b), .float .f64 0]).run Yba.prog w = .ok (.float .f64 (fl b)) w := by
  by_cases h : b = 0
  · subst h
    have h' : FloatKind.f64.format.order (fl 0) 0 = some .eq := by decide
    simp [Builtin.max_, Builtin.max2, h']
    intro _
    decide
  · have h' : FloatKind.f64.format.order (fl b) 0 = some .gt := by rw [show FloatKind.f64.format = D from rfl, order_zero b (by omega), cmp_gt (by omega)]
    simp [Builtin.max_, Builtin.max2, h']

theorem exactW_def (w W : World) (n : Nat) (b f4 P : Int) : exactW w W n b f4 P =
  ((W.alloc (.cells #[.int .i64 b, .int .i64 1000000000, .int .i64 b, .int .i64 1000000000] 39)).alloc
    (.cells #[.int .i64 0, .int .i64 0, .slice Option.none 0 0, .int .i64 0] 42)).alloc
    (.cells #[.int .i64 0, .int .i64 0, .slice (some ⟨W.heap.size, 0, Option.none⟩) 2 2, .int .i64 f4, .pointer (some ⟨W.heap.size + 1, 0, Option.none⟩), .slice (some ⟨w.heap.size, 0, Option.none⟩) n n, .int .u64 0, .int .i64 0, .pointer Option.none, .int .i64 0, .int .u64 0, .int .i64 0, .pointer Option.none, .int .i64 0, .bool false, .int .i64 P, .int .i64 0] 45) := rfl

theorem exactW_below (w W : World) (n : Nat) (b f4 P : Int) : Below W.heap.size W (exactW w W n b f4 P) := by unfold exactW; go_grown

theorem exact_facts {w wr : World} {n : Nat} {L : List Int} {ps : List Nat} {xs : List Value} (h : Filled w wr n L n ps xs) (hl : L.length = n) (hL : ∀ r ∈ L, 0 ≤ r ∧ r ≤ 65535) (b f4 P : Int) (hb0 : 0 ≤ b) (hb1 : b < 4294967296) :
    Ups (exactW w wr n b f4 P) (wr.heap.size + 1 + 1) n (L.map fl) w.heap.size n ps ∧ SpeedIs (exactW w wr n b f4 P) (wr.heap.size + 1 + 1) (fl b) ∧
    (exactW w wr n b f4 P).cell? ⟨wr.heap.size + 1 + 1, 2, Option.none⟩ = some (.slice (some ⟨wr.heap.size, 0, Option.none⟩) 2 2) ∧ (exactW w wr n b f4 P).cell? ⟨wr.heap.size + 1 + 1, 3, Option.none⟩ = some (.int .i64 f4) ∧
    (exactW w wr n b f4 P).cell? ⟨wr.heap.size + 1 + 1, 15, Option.none⟩ = some (.int .i64 P) ∧ Below w.heap.size w (exactW w wr n b f4 P) := by
  have hB := exactW_below w wr n b f4 P
  have hlow := h.low
  have hz := hlow.size
  refine ⟨⟨by simp [hl], h.plen, by unfold exactW; simp [go_sem], ?_, ?_, ?_⟩, ?_, by unfold exactW; simp [go_sem], by unfold exactW; simp [go_sem], by unfold exactW; simp [go_sem], hlow.trans (hB.mono hz)⟩
  · intro j p hj
    have hjn : j < n := by rw [← h.plen]; exact (List.getElem?_eq_some_iff.1 hj).1
    have hc := (h.own.cellAt j (by omega)).trans (h.ptr j p hj)
    rw [hB.cell (World.block_lt_of_cell? wr _ hc)]
    exact hc
  · intro j p x hj hx
    obtain ⟨_, _, d⟩ := h.pt j p hj
    rw [hB.cell (World.block_lt_of_cell? wr _ d), d]
    simp only [List.getElem?_map, Option.map_eq_some_iff] at hx
    obtain ⟨r, hr, rfl⟩ := hx
    simp [List.getD, hr]
  · intro x hx
    obtain ⟨r, hr, rfl⟩ := List.mem_map.1 hx
    have := hL r hr
    exact fl_mul r (by omega)
  · generalize hX : exactW w wr n b f4 P = X
    have a0 : X.cell? ⟨wr.heap.size, 0, Option.none⟩ = some (.int .i64 b) := by rw [← hX]; unfold exactW; simp [go_sem]
    have a1 : X.cell? ⟨wr.heap.size, 1, Option.none⟩ = some (.int .i64 1000000000) := by rw [← hX]; unfold exactW; simp [go_sem]
    have a2 : X.cell? ⟨wr.heap.size, 2, Option.none⟩ = some (.int .i64 b) := by rw [← hX]; unfold exactW; simp [go_sem]
    have a3 : X.cell? ⟨wr.heap.size, 3, Option.none⟩ = some (.int .i64 1000000000) := by rw [← hX]; unfold exactW; simp [go_sem]
    have m1 : X.cell? ⟨wr.heap.size + 1, 1, Option.none⟩ = some (.int .i64 0) := by rw [← hX]; unfold exactW; simp [go_sem]
    have m2 : X.cell? ⟨wr.heap.size + 1, 2, Option.none⟩ = some (.slice Option.none 0 0) := by rw [← hX]; unfold exactW; simp [go_sem]
    have u2 : X.cell? ⟨wr.heap.size + 1 + 1, 0 + 2, Option.none⟩ = some (.slice (some ⟨wr.heap.size, 0, Option.none⟩) 2 2) := by rw [← hX]; unfold exactW; simp [go_sem]
    have u4 : X.cell? ⟨wr.heap.size + 1 + 1, 4, Option.none⟩ = some (.pointer (some ⟨wr.heap.size + 1, 0, Option.none⟩)) := by rw [← hX]; unfold exactW; simp [go_sem]
    clear hX
    have st1 : SteadyIs X ⟨wr.heap.size + 1 + 1, 0, Option.none⟩ (fl b) := fun w1 hb =>
      steady_two _ 0 _ 2 b w1 hb0 hb1 ((hb.cell (World.block_lt_of_cell? X _ u2)).trans u2) ((hb.cell (World.block_lt_of_cell? X _ a0)).trans a0) ((hb.cell (World.block_lt_of_cell? X _ a1)).trans a1) ((hb.cell (World.block_lt_of_cell? X _ a2)).trans a2) ((hb.cell (World.block_lt_of_cell? X _ a3)).trans a3)
    have st2 : SteadyIs X ⟨wr.heap.size + 1, 0, Option.none⟩ 0 := fun w1 hb =>
      steady_nil _ w1 ((hb.cell (World.block_lt_of_cell? X _ m1)).trans m1) ((hb.cell (World.block_lt_of_cell? X _ m2)).trans m2)
    exact fun w1 hb => speed_at _ _ (fl b) 0 (fl b) w1 ((hb.cell (World.block_lt_of_cell? X _ u4)).trans u4) (st1.later hb) (st2.later hb) (fun w ts t => max_zero b hb0 hb1 w ts t)

set_option maxRecDepth 100000 in
set_option maxHeartbeats 6400000 in
theorem exact_some (pace size bb flat paired : Int) (a : Option Addr) (b off n cap : Nat) (L : List Int) (w : World) (hp0 : 0 ≤ pace) (hp1 : pace < 4294967296) (hs0 : -2147483648 ≤ size) (hs1 : size < 2147483648) (hb0 : 0 ≤ bb) (hb1 : bb < 4294967296) (hf0 : 0 ≤ flat) (hf1 : flat ≤ 255) (hq0 : 0 ≤ paired) (hq1 : paired ≤ 255)
    (hn : n ≤ 1024) (ha : 0 < n → a = some ⟨b, off, Option.none⟩) (hl : L.length = n) (hc : ∀ (j : Nat) (r : Int), L[j]? = some r → w.cell? ⟨b, off + j, Option.none⟩ = some (.int .u16 r)) (hL : ∀ r ∈ L, 0 ≤ r ∧ r ≤ 65535) :
    Calls Yba.prog 3 #[.int .u32 pace, .int .i32 size, .int .u32 bb, .int .u8 flat, .int .u8 paired, .slice a n cap] w fun e w' => e = .returned (.bool true) ∧ Below w.heap.size w w' := by
  have HL : Hid (L.length = n) := hl
  have HC : Hid (∀ (j : Nat) (r : Int), L[j]? = some r → w.cell? ⟨b, off + j, Option.none⟩ = some (.int .u16 r)) := hc
  have HLb : Hid (∀ r ∈ L, 0 ≤ r ∧ r ≤ 65535) := hL
  obtain ⟨i0, hi, hz0, hz1, hz2⟩ := info_parts info26
  have HA : Hid (0 < n → a = some ⟨b, off, Option.none⟩) := ha
  clear hc hl hL ha
  go_enter Yba.func3, Yba.ntmps3
  go_wp2_with (at_make; refine wpList_make_full _ rfl (.tmp 32) (.tmp 32) 24 rfl w.heap.size 26 i0 (.pointer Option.none) 1 Yba.underlying24 hi hz0 hz1 .i64 .i64 _ _ n rfl rfl (by omega) (by omega) (by rw [hz2]; omega) (by unfold maxLen; omega) (Nat.le_refl _) ?_; intro w1 hown1 hg1)
  clear hi hz0 hz1 hz2
  go_loopw [36] (fun i wr => ∃ k ps xs, k ≤ n ∧ i = .int .i64 (k : Nat) ∧ Filled w wr n L k ps xs) (fun i _ => n - (intOf i).toNat)
  case atStart => exact ⟨0, [], _, Nat.zero_le _, rfl, ⟨rfl, hown1, by intro j p h; simp at h, by intro j p h; simp at h, below_of hg1⟩⟩
  case round =>
    obtain ⟨k, ps, xs, hk, rfl, hB⟩ := hrel
    have HB : Hid (Filled w wr n L k ps xs) := hB
    by_cases hlt : k < n
    · have ha := HA.out (by omega)
      subst ha
      obtain ⟨r, hr⟩ : ∃ r, L[k]? = some r := ⟨_, List.getElem?_eq_getElem (by have := HL.out; omega)⟩
      have c0 := HC.out k r hr
      have c1 : wr.cell? ⟨b, off + k, Option.none⟩ = some (.int .u16 r) := (hB.low.cell (World.block_lt_of_cell? w _ c0)).trans c0
      have HR : Hid (L.getD k 0 = r) := by show L.getD k 0 = r; simp [List.getD, hr]
      have hlen : xs.length = n := by have := hB.own.1; simpa using this
      obtain ⟨u, hu⟩ : ∃ u, xs[k]? = some u := ⟨_, List.getElem?_eq_getElem (by omega)⟩
      have cg : wr.cell? ⟨w.heap.size, k, Option.none⟩ = some u := (hB.own.cellAt k (by omega)).trans hu
      have fg : wr.frozen? ⟨w.heap.size, k, Option.none⟩ = false := hB.own.frozenAt k
      have lg := World.block_lt_of_cell? wr _ cg
      simp at lg
      clear hB hr c0 hlen hu
      go_wp2
      go_roundw
      case rel => exact ⟨k + 1, _, _, by omega, by go_num, HB.out.push hlt rfl HR.out⟩
      case measure => simp [intOf]; omega
    · have hkn : k = n := by omega
      subst hkn
      clear hB
      go_wp2
      rw [← exactW_def]
      obtain ⟨hU, hSp, u2, u3, u15, hBw⟩ := exact_facts HB.out HL.out HLb.out bb (flat % 4) (paired % 3 * 125000000) hb0 hb1
      generalize exactW w wr k bb (flat % 4) (paired % 3 * 125000000) = W1 at *
      have HU : Hid (Ups W1 (wr.heap.size + 1 + 1) k (L.map fl) w.heap.size k ps) := hU
      have HSp : Hid (SpeedIs W1 (wr.heap.size + 1 + 1) (fl bb)) := hSp
      have HBw : Hid (Below w.heap.size w W1) := hBw
      clear hU hSp hBw HB
      go_loop [20, 77] (fun sl i => ∃ j : Nat, j ≤ k ∧ i = .int .i64 j ∧ sl = .int .i64 (cntB (L.map fl) (fl bb) j)) (fun _ i => k - (intOf i).toNat)
      case atStart => exact ⟨0, Nat.zero_le _, rfl, by rw [cntB_zero]; rfl⟩
      case round =>
        obtain ⟨j, hj, rfl, rfl⟩ := hrel
        have hle := cntB_le (L.map fl) (fl bb) j
        by_cases hlt2 : j < k
        · have ha := HA.out (by omega)
          subst ha
          obtain ⟨r, hr⟩ : ∃ r, L[j]? = some r := ⟨_, List.getElem?_eq_getElem (by have := HL.out; omega)⟩
          have hrb := HLb.out r (List.mem_of_getElem? hr)
          have c0 := HC.out j r hr
          have c1 : W1.cell? ⟨b, off + j, Option.none⟩ = some (.int .u16 r) := (HBw.out.cell (World.block_lt_of_cell? w _ c0)).trans c0
          have hx : (L.map fl)[j]? = some (fl r) := by simp [hr]
          obtain ⟨z, hz⟩ := fl_mul r (by omega)
          have q1 := run_float_arith (P := Yba.prog) W1 .mul 27 .f64 4609434218613702656 (fl r) z hz
          have HSu : Hid (∀ bb', slowB (fl r) (fl bb) = bb' → cntB (L.map fl) (fl bb) (j + 1) = cntB (L.map fl) (fl bb) j + (if bb' then 1 else 0)) := fun bb' h => cntB_succ (L.map fl) (fl bb) j hx h
          have Hs : Hid (slowB (fl r) (fl bb) = ((D.order (fl r) 0 == some .gt) && (D.order z (fl bb) == some .lt))) := by show slowB _ _ = _; unfold slowB; rw [hz]
          have ho := order_zero r (by omega)
          clear hz hx hr c0
          by_cases hr0 : 0 < r
          · rw [cmp_gt hr0] at ho
            have Ho : Hid (D.order (fl r) 0 = some .gt) := ho
            clear ho
            cases hq : (FloatKind.f64.format.order z (fl bb) == some .lt)
            · have hb2 : slowB (fl r) (fl bb) = false := by rw [Hs.out, Ho.out, show D = FloatKind.f64.format from rfl, hq]; rfl
              have HE : Hid (cntB (L.map fl) (fl bb) (j + 1) = cntB (L.map fl) (fl bb) j) := by show _ = _; rw [HSu.out _ hb2]; rfl
              clear hb2
              go_wp2
              go_round
              case rel => exact ⟨j + 1, by omega, by go_num, by rw [HE.out]⟩
              case measure => simp [intOf]; omega
            · have hb2 : slowB (fl r) (fl bb) = true := by rw [Hs.out, Ho.out, show D = FloatKind.f64.format from rfl, hq]; rfl
              have HE : Hid (cntB (L.map fl) (fl bb) (j + 1) = cntB (L.map fl) (fl bb) j + 1) := by show _ = _; rw [HSu.out _ hb2]; rfl
              clear hb2
              go_wp2
              go_round
              case rel => exact ⟨j + 1, by omega, by go_num, by rw [HE.out]; go_num⟩
              case measure => simp [intOf]; omega
          · have hr00 : r = 0 := by omega
            have hb2 : slowB (fl r) (fl bb) = false := by rw [Hs.out, ho, hr00]; rfl
            have HE : Hid (cntB (L.map fl) (fl bb) (j + 1) = cntB (L.map fl) (fl bb) j) := by show _ = _; rw [HSu.out _ hb2]; rfl
            have hr1 : r ≤ 0 := by omega
            clear hb2 ho hr00
            go_wp2
            go_round
            case rel => exact ⟨j + 1, by omega, by go_num, by rw [HE.out]⟩
            case measure => simp [intOf]; omega
        · have hjk : j = k := by omega
          subst hjk
          have hle2 : 2 * cntB (L.map fl) (fl bb) j ≤ 4096 := by omega
          by_cases hh : j < 2 * cntB (L.map fl) (fl bb) j
          · have Hh : Hid (decide (j < 2 * cntB (L.map fl) (fl bb) j) = true) := decide_eq_true hh
            have hd : decide ((j : Int) < 2 * (cntB (L.map fl) (fl bb) j : Int)) = true := decide_eq_true (by omega)
            clear hh
            by_cases hF4 : flat % 4 < 2
            · by_cases hP : paired % 3 < 2
              · obtain ⟨l, hl, nl⟩ := fl_mulc 4611686018427387904 read_two size (by omega)
                have ql := run_float_arith (P := Yba.prog) W1 .mul 27 .f64 4611686018427387904 (fl size) l hl
                obtain ⟨m, hmax, hord⟩ := max_law (fl pace) l (num_fl pace) nl
                have HM : Hid (∀ (w : World) ts t, (Builtin.max_ ts t #[.float .f64 (fl pace), .float .f64 l]).run Yba.prog w = .ok (.float .f64 m) w) := hmax
                have Hl : Hid (D.mul 4611686018427387904 (fl size) = some l) := hl
                clear hmax hl nl
                rw [show D = FloatKind.f64.format from rfl] at hord
                cases hgt : (FloatKind.f64.format.order (fl pace) l == some .gt)
                all_goals
                  rw [hgt] at hord
                  simp only [if_true, Bool.false_eq_true, if_false] at hord
                  go_wp2_with (go_at_call 6; refine (fits_lo_hg _ j (fl bb) w.heap.size j (L.map fl) ps wr.heap.size 2 pace size _ _ _ l m _ hp0 hp1 (by omega) HU.out HSp.out Hh.out (by assumption) (by assumption) (by assumption) (by omega) hF4 rfl Hl.out HM.out).mono ?_; rintro e w2 ⟨rfl, hb2⟩)
                  go_ret
                  exact ⟨ret_bool (by simp), HBw.out.trans (hb2.mono HBw.out.size)⟩
              · obtain ⟨l, hl, nl⟩ := fl_mulc 4609434218613702656 read_onehalf size (by omega)
                have ql := run_float_arith (P := Yba.prog) W1 .mul 27 .f64 4609434218613702656 (fl size) l hl
                obtain ⟨m, hmax, hord⟩ := max_law (fl pace) l (num_fl pace) nl
                have HM : Hid (∀ (w : World) ts t, (Builtin.max_ ts t #[.float .f64 (fl pace), .float .f64 l]).run Yba.prog w = .ok (.float .f64 m) w) := hmax
                have Hl : Hid (D.mul 4609434218613702656 (fl size) = some l) := hl
                clear hmax hl nl
                rw [show D = FloatKind.f64.format from rfl] at hord
                cases hgt : (FloatKind.f64.format.order (fl pace) l == some .gt)
                all_goals
                  rw [hgt] at hord
                  simp only [if_true, Bool.false_eq_true, if_false] at hord
                  go_wp2_with (go_at_call 6; refine (fits_hi_hg _ j (fl bb) w.heap.size j (L.map fl) ps wr.heap.size 2 pace size _ _ _ l m _ hp0 hp1 (by omega) HU.out HSp.out Hh.out (by assumption) (by assumption) (by assumption) (by omega) hF4 rfl Hl.out HM.out).mono ?_; rintro e w2 ⟨rfl, hb2⟩)
                  go_ret
                  exact ⟨ret_bool (by simp), HBw.out.trans (hb2.mono HBw.out.size)⟩
            · by_cases hP : paired % 3 < 2
              · obtain ⟨l, hl, nl⟩ := fl_mulc 4611686018427387904 read_two size (by omega)
                have ql := run_float_arith (P := Yba.prog) W1 .mul 27 .f64 4611686018427387904 (fl size) l hl
                obtain ⟨o, ho, no⟩ := fl_mulc' 4602678819172646912 read_half pace (by omega)
                have qo := run_float_arith (P := Yba.prog) W1 .quo 27 .f64 (fl pace) 4611686018427387904 o (by show D.div _ _ = _; rw [half_same pace (by omega)]; exact ho)
                have HO : Hid (D.mul (fl pace) 4602678819172646912 = some o) := ho
                clear ho
                obtain ⟨m, hmax, hord⟩ := max_law o l no nl
                have HM : Hid (∀ (w : World) ts t, (Builtin.max_ ts t #[.float .f64 o, .float .f64 l]).run Yba.prog w = .ok (.float .f64 m) w) := hmax
                have Hl : Hid (D.mul 4611686018427387904 (fl size) = some l) := hl
                clear hmax hl nl
                rw [show D = FloatKind.f64.format from rfl] at hord
                cases hgt : (FloatKind.f64.format.order o l == some .gt)
                all_goals
                  rw [hgt] at hord
                  simp only [if_true, Bool.false_eq_true, if_false] at hord
                  go_wp2_with (go_at_call 6; refine (fits_lo_hf _ j (fl bb) w.heap.size j (L.map fl) ps wr.heap.size 2 pace size _ _ _ l m _ (by omega) HU.out HSp.out Hh.out (by assumption) (by assumption) (by assumption) (by omega) (by omega) HO.out Hl.out HM.out).mono ?_; rintro e w2 ⟨rfl, hb2⟩)
                  go_ret
                  exact ⟨ret_bool (by simp), HBw.out.trans (hb2.mono HBw.out.size)⟩
              · obtain ⟨l, hl, nl⟩ := fl_mulc 4609434218613702656 read_onehalf size (by omega)
                have ql := run_float_arith (P := Yba.prog) W1 .mul 27 .f64 4609434218613702656 (fl size) l hl
                obtain ⟨o, ho, no⟩ := fl_mulc' 4602678819172646912 read_half pace (by omega)
                have qo := run_float_arith (P := Yba.prog) W1 .quo 27 .f64 (fl pace) 4611686018427387904 o (by show D.div _ _ = _; rw [half_same pace (by omega)]; exact ho)
                have HO : Hid (D.mul (fl pace) 4602678819172646912 = some o) := ho
                clear ho
                obtain ⟨m, hmax, hord⟩ := max_law o l no nl
                have HM : Hid (∀ (w : World) ts t, (Builtin.max_ ts t #[.float .f64 o, .float .f64 l]).run Yba.prog w = .ok (.float .f64 m) w) := hmax
                have Hl : Hid (D.mul 4609434218613702656 (fl size) = some l) := hl
                clear hmax hl nl
                rw [show D = FloatKind.f64.format from rfl] at hord
                cases hgt : (FloatKind.f64.format.order o l == some .gt)
                all_goals
                  rw [hgt] at hord
                  simp only [if_true, Bool.false_eq_true, if_false] at hord
                  go_wp2_with (go_at_call 6; refine (fits_hi_hf _ j (fl bb) w.heap.size j (L.map fl) ps wr.heap.size 2 pace size _ _ _ l m _ (by omega) HU.out HSp.out Hh.out (by assumption) (by assumption) (by assumption) (by omega) (by omega) HO.out Hl.out HM.out).mono ?_; rintro e w2 ⟨rfl, hb2⟩)
                  go_ret
                  exact ⟨ret_bool (by simp), HBw.out.trans (hb2.mono HBw.out.size)⟩
          · have Hh : Hid (decide (j < 2 * cntB (L.map fl) (fl bb) j) = false) := decide_eq_false hh
            have hd : decide ((j : Int) < 2 * (cntB (L.map fl) (fl bb) j : Int)) = false := decide_eq_false (by omega)
            clear hh
            by_cases hP : paired % 3 < 2
            · obtain ⟨l, hl, nl⟩ := fl_mulc 4611686018427387904 read_two size (by omega)
              have ql := run_float_arith (P := Yba.prog) W1 .mul 27 .f64 4611686018427387904 (fl size) l hl
              obtain ⟨o, ho, no⟩ := fl_mulc' 4599075939470750515 read_03 pace (by omega)
              have qo := run_float_arith (P := Yba.prog) W1 .mul 27 .f64 (fl pace) 4599075939470750515 o ho
              have HO : Hid (D.mul (fl pace) 4599075939470750515 = some o) := ho
              clear ho
              obtain ⟨m, hmax, hord⟩ := max_law o l no nl
              have HM : Hid (∀ (w : World) ts t, (Builtin.max_ ts t #[.float .f64 o, .float .f64 l]).run Yba.prog w = .ok (.float .f64 m) w) := hmax
              have Hl : Hid (D.mul 4611686018427387904 (fl size) = some l) := hl
              clear hmax hl nl
              rw [show D = FloatKind.f64.format from rfl] at hord
              cases hgt : (FloatKind.f64.format.order o l == some .gt)
              all_goals
                rw [hgt] at hord
                simp only [if_true, Bool.false_eq_true, if_false] at hord
                go_wp2_with (go_at_call 6; refine (fits_lo_n _ j (fl bb) w.heap.size j (L.map fl) ps wr.heap.size 2 pace size _ _ _ l m _ (by omega) HU.out HSp.out Hh.out (by assumption) (by assumption) (by assumption) (by omega) HO.out Hl.out HM.out).mono ?_; rintro e w2 ⟨rfl, hb2⟩)
                go_ret
                exact ⟨ret_bool (by simp), HBw.out.trans (hb2.mono HBw.out.size)⟩
            · obtain ⟨l, hl, nl⟩ := fl_mulc 4608533498688228557 read_13 size (by omega)
              have ql := run_float_arith (P := Yba.prog) W1 .mul 27 .f64 4608533498688228557 (fl size) l hl
              obtain ⟨o, ho, no⟩ := fl_mulc' 4599075939470750515 read_03 pace (by omega)
              have qo := run_float_arith (P := Yba.prog) W1 .mul 27 .f64 (fl pace) 4599075939470750515 o ho
              have HO : Hid (D.mul (fl pace) 4599075939470750515 = some o) := ho
              clear ho
              obtain ⟨m, hmax, hord⟩ := max_law o l no nl
              have HM : Hid (∀ (w : World) ts t, (Builtin.max_ ts t #[.float .f64 o, .float .f64 l]).run Yba.prog w = .ok (.float .f64 m) w) := hmax
              have Hl : Hid (D.mul 4608533498688228557 (fl size) = some l) := hl
              clear hmax hl nl
              rw [show D = FloatKind.f64.format from rfl] at hord
              cases hgt : (FloatKind.f64.format.order o l == some .gt)
              all_goals
                rw [hgt] at hord
                simp only [if_true, Bool.false_eq_true, if_false] at hord
                go_wp2_with (go_at_call 6; refine (fits_hi_n _ j (fl bb) w.heap.size j (L.map fl) ps wr.heap.size 2 pace size _ _ _ l m _ (by omega) HU.out HSp.out Hh.out (by assumption) (by assumption) (by assumption) (by omega) HO.out Hl.out HM.out).mono ?_; rintro e w2 ⟨rfl, hb2⟩)
                go_ret
                exact ⟨ret_bool (by simp), HBw.out.trans (hb2.mono HBw.out.size)⟩

set_option maxHeartbeats 400000 in
theorem exact_long (pace size bb flat paired : Int) (a : Option Addr) (n cap : Nat) (w : World) (h : 1024 < n) :
    Calls Yba.prog 3 #[.int .u32 pace, .int .i32 size, .int .u32 bb, .int .u8 flat, .int .u8 paired, .slice a n cap] w fun e w' => e = .returned (.bool true) ∧ Below w.heap.size w w' := by
  go_enter Yba.func3, Yba.ntmps3
  go_wp2
  go_ret
  exact ⟨rfl, Below.refl _ _⟩
end Go.Proofs.Ybulkjto

import Derived.Test.YbulkjsmFmtSub
namespace Go.Proofs.YbulkjsmFmt
open Go.RowKit

/-- The endpoint, its calls, its one call, its one leg, in memory. -/
structure Stage (w : World) (be cb kb sb lb : Nat) (id v st : Int) (peer : Bool) : Prop where
  e0 : w.cell? ⟨be, 0, none⟩ = some (.pointer (some ⟨cb, 0, none⟩))
  e1 : w.cell? ⟨be, 1, none⟩ = some (.slice (some ⟨sb, 0, none⟩) 1 1)
  c0 : w.cell? ⟨cb, 0, none⟩ = some (.pointer (some ⟨kb, 0, none⟩))
  c7 : w.cell? ⟨cb, 7, none⟩ = some (.slice none 0 0)
  c8 : w.cell? ⟨cb, 8, none⟩ = some (.int .i64 id)
  c8f : w.frozen? ⟨cb, 8, none⟩ = false
  k0 : w.cell? ⟨kb, 0, none⟩ = some (.int .i64 1)
  k1 : w.cell? ⟨kb, 1, none⟩ = some (.int .i64 st)
  s0 : w.cell? ⟨sb, 0, none⟩ = some (.pointer (some ⟨lb, 0, none⟩))
  l0 : w.cell? ⟨lb, 0, none⟩ = some (.int .u16 v)
  l1 : w.cell? ⟨lb, 1, none⟩ = some (.bool peer)
  l3 : w.cell? ⟨lb, 3, none⟩ = some (.pointer (some ⟨kb, 0, none⟩))

theorem Stage.below {w w1 : World} {be cb kb sb lb : Nat} {id v st : Int} {peer : Bool} (h : Stage w be cb kb sb lb id v st peer) (hb : Below w.heap.size w w1) : Stage w1 be cb kb sb lb id v st peer where
  e0 := (hb.cell (World.block_lt_of_cell? w _ h.e0)).trans h.e0
  e1 := (hb.cell (World.block_lt_of_cell? w _ h.e1)).trans h.e1
  c0 := (hb.cell (World.block_lt_of_cell? w _ h.c0)).trans h.c0
  c7 := (hb.cell (World.block_lt_of_cell? w _ h.c7)).trans h.c7
  c8 := (hb.cell (World.block_lt_of_cell? w _ h.c8)).trans h.c8
  c8f := (hb.frozen (World.block_lt_of_cell? w _ h.c8)).trans h.c8f
  k0 := (hb.cell (World.block_lt_of_cell? w _ h.k0)).trans h.k0
  k1 := (hb.cell (World.block_lt_of_cell? w _ h.k1)).trans h.k1
  s0 := (hb.cell (World.block_lt_of_cell? w _ h.s0)).trans h.s0
  l0 := (hb.cell (World.block_lt_of_cell? w _ h.l0)).trans h.l0
  l1 := (hb.cell (World.block_lt_of_cell? w _ h.l1)).trans h.l1
  l3 := (hb.cell (World.block_lt_of_cell? w _ h.l3)).trans h.l3

theorem Stage.set {w : World} {be cb kb sb lb : Nat} {id v st : Int} {peer : Bool} (h : Stage w be cb kb sb lb id v st peer) (hbe : be ≠ cb) (hkb : kb ≠ cb) (hsb : sb ≠ cb) (hlb : lb ≠ cb) (id' : Int) : Stage (w.setCell ⟨cb, 8, none⟩ (.int .i64 id')) be cb kb sb lb id' v st peer where
  e0 := (cell_setCell_far hbe _).trans h.e0
  e1 := (cell_setCell_far hbe _).trans h.e1
  c0 := (World.cell?_setCell_other _ _ _ _ (by simp)).trans h.c0
  c7 := (World.cell?_setCell_other _ _ _ _ (by simp)).trans h.c7
  c8 := World.cell?_setCell_same _ _ _ h.c8
  c8f := by have := h.c8f; simpa using this
  k0 := (cell_setCell_far hkb _).trans h.k0
  k1 := (cell_setCell_far hkb _).trans h.k1
  s0 := (cell_setCell_far hsb _).trans h.s0
  l0 := (cell_setCell_far hlb _).trans h.l0
  l1 := (cell_setCell_far hlb _).trans h.l1
  l3 := (cell_setCell_far hlb _).trans h.l3

/-- The world in which the endpoint has been made. -/
def stageW (w : World) (v : Int) (peer : Bool) (st hold : Int) : World :=
  ((((w.alloc (.cells #[.pointer (some ⟨w.heap.size + 1, 0, none⟩), .pointer none, .pointer none, .pointer none, .pointer none, .pointer none, .pointer none, .slice none 0 0, .int .i64 0] 29)).alloc
    (.cells #[.int .i64 1, .int .i64 st, .int .i64 hold, .int .i64 0] 36)).alloc
    (.cells #[.pointer (some ⟨w.heap.size, 0, none⟩), .slice (some ⟨w.heap.size + 1 + 1 + 1 + 1, 0, none⟩) 1 1] 50)).alloc
    (.cells #[.int .u16 v, .bool peer, .int .u8 1, .pointer (some ⟨w.heap.size + 1, 0, none⟩), .bool false, .string ⟨#[]⟩, .bool false, .pointer none] 47)).alloc
    (.cells #[.pointer (some ⟨w.heap.size + 1 + 1 + 1, 0, none⟩)] 39)

theorem stageW_size (w : World) (v : Int) (peer : Bool) (st hold : Int) : (stageW w v peer st hold).heap.size = w.heap.size + 5 := by simp [stageW]
theorem stageW_below (w : World) (v : Int) (peer : Bool) (st hold : Int) : Below w.heap.size w (stageW w v peer st hold) := by unfold stageW; go_grown
theorem stageW_stage (w : World) (v : Int) (peer : Bool) (st hold : Int) : Stage (stageW w v peer st hold) (w.heap.size + 1 + 1) w.heap.size (w.heap.size + 1) (w.heap.size + 1 + 1 + 1 + 1) (w.heap.size + 1 + 1 + 1) 0 v st peer := by
  constructor <;> (unfold stageW; simp [go_sem])

set_option maxRecDepth 100000 in
set_option maxHeartbeats 1600000 in
theorem sub_active (be cb kb sb lb : Nat) (id v : Int) (peer : Bool) (ad : Addr) (m c : Nat) (news : List Value) (fa : Addr) (fc : Nat) (FH : List Value) (w : World) (h0 : 0 ≤ v) (h1 : v < 65536) (hi0 : 0 ≤ id) (hi1 : id ≤ 100) (hm : 1 ≤ m) (hm2 : m ≤ 20)
    (hS : Stage w be cb kb sb lb id v 7 peer) (hlc : lb ≠ cb) (h0c : 0 ≠ cb) (hfcb : fa.block ≠ cb)
    (hl : news.length = m) (hc : LiesAt w ad news) (hone : ∀ u ∈ news, u.oneCell' = true) (hF : w.cell? ⟨0, 0, none⟩ = some (.slice (some fa) 12 fc)) (hFl : FH.length = 12) (hFc : LiesAt w fa FH) (hFone : ∀ u ∈ FH, u.oneCell' = true)
    (hfb : fa.block < w.heap.size) :
    Calls Ybaf.prog 7 #[.pointer (some ⟨be, 0, none⟩), .int .i64 1, .slice (some ad) m c] w fun e w' => ∃ g gf cap, e = .returned (.tuple #[.slice (some ⟨g, 0, none⟩) 1 1, .nilIface]) ∧ w'.cell? ⟨g, 0, none⟩ = some (.slice (some ⟨gf, 0, none⟩) (31 + m) cap) ∧ w.heap.size ≤ g ∧ g < w'.heap.size ∧
      w'.ownsRow w.heap.size 5 1 (.slice (some ⟨gf, 0, none⟩) (31 + m) cap) (31 + m) ([.int .u8 8, .int .u8 2, .int .u8 (first v peer), .int .u8 (v % 256), .int .u8 98, .int .u8 28, .int .u8 (24 + m)] ++ FH ++
        ([.int .u8 161, .int .u8 (10 + m), .int .u8 2, .int .u8 1, .int .u8 (id + 1), .int .u8 2, .int .u8 1, .int .u8 14] ++ ([.int .u8 48, .int .u8 (2 + m), .int .u8 4, .int .u8 m] ++ news))) ∧
      Below w.heap.size (w.setCell ⟨cb, 8, none⟩ (.int .i64 (id + 1))) w' := by
  have HC : Hid (LiesAt w ad news) := hc
  have HL : Hid (news.length = m) := hl
  have HFl : Hid (FH.length = 12) := hFl
  have HFc : Hid (LiesAt w fa FH) := hFc
  have HS : Hid (Stage w be cb kb sb lb id v 7 peer) := hS
  have he0 := hS.e0
  have hc0 := hS.c0
  have hk1 := hS.k1
  have hw0 := World.block_lt_of_cell? w _ hF
  have hcb := World.block_lt_of_cell? w _ hc0
  have hl0 : ((m : Int) == 0) = false := beq_eq_false_iff_ne.2 (by omega)
  have hl2 : decide ((20 : Int) < (m : Int)) = false := decide_eq_false (by omega)
  clear hc hl hFl hFc hS
  go_enter Ybaf.func7, Ybaf.ntmps7
  go_wp2_with (first
    | (go_at_call 11; go_in)
    | (go_at_call 13; refine (legOf_any be sb lb kb _ HS.out.e1 HS.out.s0 HS.out.l3).mono ?_; rintro e w' ⟨rfl, hw⟩; subst w')
    | (go_at_call 14; refine (subarg_any ad m c news _ (by omega) (by omega) HL.out HC.out hone).mono ?_; rintro e w1 ⟨g1, cap1, rfl, hown1, hb1⟩))
  have S1 := HS.out.below hb1
  have hz1 := hb1.size
  have hgb := owns_block_lt hown1
  have hlen : ([Value.int .u8 48, .int .u8 (2 + m), .int .u8 4, .int .u8 m] ++ news).length = 4 + m := by have := HL.out; simp; omega
  refine (send_any be cb lb id v peer ⟨g1, 0, none⟩ (4 + m) cap1 ([.int .u8 48, .int .u8 (2 + m), .int .u8 4, .int .u8 m] ++ news) fa fc FH w1 h0 h1 hi0 hi1 (by omega) (by omega) S1.e0 S1.c7 S1.c8 S1.c8f S1.l0 S1.l1 hlc h0c (by show g1 ≠ cb; omega) hfcb hlen (lies_of_owns hown1) (one_cons4 _ _ _ _ hone) ((hb1.cell hw0).trans hF) HFl.out (LiesAt.below HFc.out hb1 hfb) hFone (by omega)).mono ?_
  rintro e w2 ⟨g, gf, cap, rfl, hcell, hge, hlt, hown, hbel⟩
  clear S1 hlen
  go_wp2
  go_ret2
  have e1 : 27 + (4 + m) = 31 + m := by omega
  have e2 : 20 + ((4 + m : Nat) : Int) = 24 + (m : Int) := by omega
  have e3 : 6 + ((4 + m : Nat) : Int) = 10 + (m : Int) := by omega
  rw [e1, e2, e3] at hown
  rw [e1] at hcell
  exact ⟨g, gf, cap, rfl, hcell, by omega, hlt, owns_base hown hz1, (below_setCell hb1 _ _).trans (hbel.mono hz1)⟩
end Go.Proofs.YbulkjsmFmt

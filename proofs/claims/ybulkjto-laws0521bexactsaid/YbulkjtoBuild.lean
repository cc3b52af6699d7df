import Derived.Test.YbulkjtoSpeed
import Derived.Deep.AppendLies
namespace Go.Proofs.Ybulkjto
open Go.RowKit

theorem info26 : (Yba.prog.info? 26).map (fun i => (i.zero, i.size, i.bytes)) = some (some (.pointer Option.none), 1, 8) := by kernel_rfl

def ptrV (p : Nat) : Value := .pointer (some ⟨p, 0, Option.none⟩)

/-- THE APPEND OF POINTERS ONTO nil OR ONTO A ROW OF THE CALL's OWN, at this dump's numbers. -/
theorem appP {w : World} {ops : Array Oper} {rest : List Oper} {o : Oper} {a : Act} {Q : Exit → Act → World → Prop} (hgd : o.guard = Option.none) (s x : Operand)
    (ho : o.op = .call { callee := .builtin .append, args := #[s, x], argTypes := #[24, 24] })
    (base : Nat) (v : Value) (n : Nat) (xs : List Value) (hs : a.eval s = v) (hown : w.ownsRow base 26 1 v n xs)
    (ad : Addr) (m c : Nat) (news : List Value) (hx : a.eval x = .slice (some ad) m c) (hl : news.length = m) (hnews : ∀ j u, news[j]? = some u → w.cell? (ad.add j) = some u) (h1 : ∀ u ∈ news, u.oneCell' = true)
    (hm : 0 < m) (hbd : n + m ≤ 1000000) (hbase : base ≤ w.heap.size) (H : Nat) (hH : w.heap.size = H)
    (h : ∀ g cap w', w'.ownsRow base 26 1 (.slice (some ⟨g, 0, Option.none⟩) (n + m) cap) (n + m) (xs ++ news) → w.grownBy w' v.ownBlock → (v.ownBlock = some g ∨ g = H) → g < w'.heap.size → wpList Yba.prog ops Q rest (a.put o.dst (.slice (some ⟨g, 0, Option.none⟩) (n + m) cap)) w') : wpList Yba.prog ops Q (o :: rest) a w := by
  obtain ⟨i0, hi, hz0, hz1, hz2⟩ := info_parts info26
  exact wpList_append_lies w hgd s x 24 ho base 26 i0 (.pointer Option.none) 1 8 Yba.underlying24 hi hz0 hz1 hz2 rfl (by decide) v n xs hs hown ad m c news hx (by omega) hnews h1 hm (by unfold maxLen; omega) (by omega) hbase H hH h

/-- What has been built after k rates. -/
structure Built (W0 wr : World) (B ub : Nat) (L : List Int) (k : Nat) (v : Value) (ps : List Nat) (kv dv : Value) : Prop where
  ubB : ub < B
  size : B ≤ wr.heap.size
  plen : ps.length = k
  fld : wr.cell? ⟨ub, 5, Option.none⟩ = some v
  frz : wr.frozen? ⟨ub, 5, Option.none⟩ = false
  own : wr.ownsRow B 26 1 v k (ps.map ptrV)
  pt : ∀ (j p : Nat), ps[j]? = some p → B ≤ p ∧ p < wr.heap.size ∧ v.ownBlock ≠ some p ∧ wr.cell? ⟨p, 3, Option.none⟩ = some (.float .f64 (fl (L.getD j 0)))
  kept : wr.cell? ⟨ub, 2, Option.none⟩ = some kv
  down : wr.cell? ⟨ub, 4, Option.none⟩ = some dv
  low : Below ub W0 wr

theorem ownBlock_ge {w : World} {B : Nat} {v : Value} {k : Nat} {xs : List Value} (h : w.ownsRow B 26 1 v k xs) : ∀ p, v.ownBlock = some p → B ≤ p ∧ p < w.heap.size := by
  intro p hp
  rcases h.2 with ⟨rfl, _⟩ | ⟨g, cap, cur, rfl, hb, hh, _⟩
  · cases hp
  · simp [Value.ownBlock] at hp
    subst hp
    exact ⟨hb, (Array.getElem?_eq_some_iff.1 hh).1⟩

theorem news_at (w : World) (B : Nat) (hB : w.heap.size = B) (vs : List Value) (e : TypeId) : ∀ j u, vs[j]? = some u → (w.alloc (.cells vs.toArray e)).cell? ((⟨B, 0, Option.none⟩ : Addr).add j) = some u := by
  subst hB
  exact fun j u hj => World.news_of_block (heap_alloc_new w _) j u (by simpa using hj)

theorem Built.after {W0 wr w1 : World} {B ub : Nat} {L : List Int} {k : Nat} {v : Value} {ps : List Nat} {kv dv : Value} (h : Built W0 wr B ub L k v ps kv dv) {o1 o2 : Obj}
    (hg : ((wr.alloc o1).alloc o2).grownBy w1 v.ownBlock) : w1.cell? ⟨ub, 5, Option.none⟩ = some v ∧ w1.frozen? ⟨ub, 5, Option.none⟩ = false := by
  have hob := ownBlock_ge h.own
  have hub : v.ownBlock ≠ some ub := fun e => by have := hob ub e; have := h.ubB; omega
  have hsz := h.size
  have hulb := h.ubB
  refine ⟨hg.cell (keep_alloc (keep_alloc h.fld _) _) (fun e => hub e.symm), ?_⟩
  rw [hg.frozen_far ⟨ub, 5, Option.none⟩ (by simp; omega) (fun e => hub e.symm)]
  have hb : Below wr.heap.size wr ((wr.alloc o1).alloc o2) := ((Below.refl _ _).alloc (Nat.le_refl _) _).alloc (by simp) _
  rw [hb.frozen (by show ub < wr.heap.size; omega)]
  exact h.frz

theorem Built.push {W0 wr w1 : World} {B ub : Nat} {L : List Int} {k : Nat} {v : Value} {ps : List Nat} {kv dv : Value} (h : Built W0 wr B ub L k v ps kv dv) {cs : Array Value} {o2 : Obj} {g cap : Nat} {r : Int}
    (hg : ((wr.alloc (.cells cs 35)).alloc o2).grownBy w1 v.ownBlock) (hown : w1.ownsRow B 26 1 (.slice (some ⟨g, 0, Option.none⟩) (k + 1) cap) (k + 1) (ps.map ptrV ++ [ptrV wr.heap.size])) (hat : v.ownBlock = some g ∨ g = wr.heap.size + 1 + 1)
    (hcs : cs[3]? = some (.float .f64 (fl r))) (hr : L.getD k 0 = r) :
    Built W0 (w1.setCell ⟨ub, 5, Option.none⟩ (.slice (some ⟨g, 0, Option.none⟩) (k + 1) cap)) B ub L (k + 1) (.slice (some ⟨g, 0, Option.none⟩) (k + 1) cap) (ps ++ [wr.heap.size]) kv dv := by
  have hob := ownBlock_ge h.own
  have hub : v.ownBlock ≠ some ub := fun e => by have := hob ub e; have := h.ubB; omega
  have hs1 : wr.heap.size + 1 + 1 ≤ w1.heap.size := by have := hg.size; simpa using this
  have hsz := h.size
  have hulb := h.ubB
  have keep : ∀ (a : Addr) (u : Value), wr.cell? a = some u → v.ownBlock ≠ some a.block → w1.cell? a = some u := fun a u ha hne =>
    hg.cell (keep_alloc (keep_alloc ha _) _) (fun e => hne e.symm)
  have hgub : g ≠ ub := by
    rcases hat with e | e
    · exact fun e' => hub (by rw [e, e'])
    · omega
  refine ⟨h.ubB, by simp; omega, by simp [h.plen], ?_, ?_, ?_, ?_, ?_, ?_, ?_⟩
  · exact World.cell?_setCell_same _ _ _ (keep _ _ h.fld hub)
  · have : w1.frozen? ⟨ub, 5, Option.none⟩ = false := by
      rw [hg.frozen_far ⟨ub, 5, Option.none⟩ (by simp; omega) (fun e => hub e.symm)]
      have := h.frz
      have hb : Below wr.heap.size wr ((wr.alloc (.cells cs 35)).alloc o2) := ((Below.refl _ _).alloc (Nat.le_refl _) _).alloc (by simp) _
      rw [hb.frozen (by show ub < wr.heap.size; omega)]
      exact this
    simpa using this
  · have := ownsRow_setCell_below hown (a := ⟨ub, 5, Option.none⟩) h.ubB (.slice (some ⟨g, 0, Option.none⟩) (k + 1) cap)
    simpa using this
  · intro j p hj
    have hfar : ∀ (p : Nat) (u : Value), B ≤ p → w1.cell? ⟨p, 3, Option.none⟩ = some u → (w1.setCell ⟨ub, 5, Option.none⟩ (.slice (some ⟨g, 0, Option.none⟩) (k + 1) cap)).cell? ⟨p, 3, Option.none⟩ = some u := fun p u hp hu => by
      rw [World.cell?_of_block (w := w1) (Below.heap_setCell w1 _ _ _ (by show p ≠ ub; omega))]
      exact hu
    by_cases hjk : j < k
    · rw [List.getElem?_append_left (by rw [h.plen]; exact hjk)] at hj
      obtain ⟨a, b, c, d⟩ := h.pt j p hj
      refine ⟨a, by simp; omega, ?_, hfar p _ a (keep _ _ d c)⟩
      intro e
      simp [Value.ownBlock] at e
      subst e
      rcases hat with e | e
      · exact c e
      · omega
    · have hjk' : j = k := by
        have : j < (ps ++ [wr.heap.size]).length := (List.getElem?_eq_some_iff.1 hj).1
        simp [h.plen] at this
        omega
      subst hjk'
      rw [List.getElem?_append_right (by rw [h.plen]; exact Nat.le_refl _)] at hj
      simp [h.plen] at hj
      subst hj
      refine ⟨hsz, by simp; omega, ?_, hfar _ _ hsz ?_⟩
      · intro e
        simp [Value.ownBlock] at e
        rcases hat with e' | e'
        · have := (hob g e').2; omega
        · omega
      · rw [hr]
        refine hg.cell (keep_alloc ?_ _) (fun e => ?_)
        · simp [go_sem, hcs]
        · have := (hob _ e.symm).2
          simp at this
  · rw [World.cell?_setCell_other _ _ _ _ (by simp)]
    exact keep _ _ h.kept hub
  · rw [World.cell?_setCell_other _ _ _ _ (by simp)]
    exact keep _ _ h.down hub
  · refine Below.setCell (p := ⟨ub, 5, Option.none⟩) ?_ (Nat.le_refl _) _
    refine Below.grown (w := (wr.alloc (.cells cs 35)).alloc o2) ?_ hg (by simp; omega) (fun p hp => by have := hob p hp; show ub ≤ p; omega)
    exact (h.low.alloc (by omega) _).alloc (by simp; omega) _

/-- The world ahead of the loop. -/
def buildW (w : World) (speed : Int) : World :=
  (((w.alloc (.cells #[.int .i64 speed, .int .i64 1000000000] 39)).alloc
    (.cells #[.int .i64 0, .int .i64 0, .slice (some ⟨w.heap.size, 0, Option.none⟩) 1 1, .int .i64 0] 42)).alloc
    (.cells #[.int .i64 speed, .int .i64 1000000000] 39)).alloc
    (.cells #[.int .i64 0, .int .i64 0, .slice (some ⟨w.heap.size + 1 + 1, 0, Option.none⟩) 1 1, .int .i64 0, .pointer (some ⟨w.heap.size + 1, 0, Option.none⟩), .slice Option.none 0 0, .int .u64 0, .int .i64 0, .pointer Option.none, .int .i64 0, .int .u64 0, .int .i64 0, .pointer Option.none, .int .i64 0, .bool false, .int .i64 0, .int .i64 0] 45)

abbrev keptV (w : World) : Value := .slice (some ⟨w.heap.size + 1 + 1, 0, Option.none⟩) 1 1
abbrev downV (w : World) : Value := .pointer (some ⟨w.heap.size + 1, 0, Option.none⟩)

theorem buildW_below (w : World) (speed : Int) : Below w.heap.size w (buildW w speed) := by unfold buildW; go_grown
theorem buildW_size (w : World) (speed : Int) : (buildW w speed).heap.size = w.heap.size + 4 := by simp [buildW]
theorem buildW_built (w : World) (speed : Int) (L : List Int) : Built (buildW w speed) (buildW w speed) (w.heap.size + 4) (w.heap.size + 1 + 1 + 1) L 0 (.slice Option.none 0 0) [] (keptV w) (downV w) where
  ubB := by omega
  size := by rw [buildW_size]; exact Nat.le_refl _
  plen := rfl
  fld := by unfold buildW; simp [go_sem]
  frz := by unfold buildW; simp [go_sem]
  own := World.ownsRow_nil _ _ _ _
  pt := by intro j p h; simp at h
  kept := by unfold buildW; simp [go_sem]
  down := by unfold buildW; simp [go_sem]
  low := Below.refl _ _

set_option maxRecDepth 100000 in
set_option maxHeartbeats 1600000 in
theorem build_any (speed : Int) (b off n cap : Nat) (L : List Int) (w : World) (hs0 : -2147483648 ≤ speed) (hs1 : speed < 2147483648) (hn : n ≤ 1024) (hl : L.length = n) (hb : b < w.heap.size) (hc : ∀ (j : Nat) (r : Int), L[j]? = some r → w.cell? ⟨b, off + j, Option.none⟩ = some (.int .i32 r)) :
    Calls Yba.prog 7 #[.int .i32 speed, .slice (some ⟨b, off, Option.none⟩) n cap, .int .i64 1] w fun e w' => e = .returned (.pointer (some ⟨w.heap.size + 1 + 1 + 1, 0, Option.none⟩)) ∧
      ∃ v ps, Built (buildW w speed) w' (w.heap.size + 4) (w.heap.size + 1 + 1 + 1) L n v ps (keptV w) (downV w) := by
  have HL : Hid (L.length = n) := hl
  have HC : Hid (∀ (j : Nat) (r : Int), L[j]? = some r → w.cell? ⟨b, off + j, Option.none⟩ = some (.int .i32 r)) := hc
  clear hc hl
  go_enter Yba.func7, Yba.ntmps7
  go_wp2
  refine wp_loop_rounds 2 ?_
  rw [rounds_succ]
  go_wp2
  go_loopw [33] (fun i wr => ∃ k v ps, k ≤ n ∧ i = .int .i64 (k : Nat) ∧ Built (buildW w speed) wr (w.heap.size + 4) (w.heap.size + 1 + 1 + 1) L k v ps (keptV w) (downV w)) (fun i _ => n - (intOf i).toNat)
  case atStart => exact ⟨0, _, _, Nat.zero_le _, rfl, buildW_built w speed L⟩
  case round =>
    obtain ⟨k, v, ps, hk, rfl, hB⟩ := hrel
    have HB : Hid (Built (buildW w speed) wr (w.heap.size + 4) (w.heap.size + 1 + 1 + 1) L k v ps (keptV w) (downV w)) := hB
    have hfld := hB.fld
    have hfrz := hB.frz
    have hz := hB.size
    by_cases hlt : k < n
    · obtain ⟨r, hr⟩ : ∃ r, L[k]? = some r := ⟨_, List.getElem?_eq_getElem (by have := HL.out; omega)⟩
      have c1 : wr.cell? ⟨b, off + k, Option.none⟩ = some (.int .i32 r) := by
        rw [hB.low.cell (p := ⟨b, off + k, Option.none⟩) (by show b < _; omega), (buildW_below w speed).cell (p := ⟨b, off + k, Option.none⟩) hb]
        exact HC.out k r hr
      have HR : Hid (L.getD k 0 = r) := by show L.getD k 0 = r; simp [List.getD, hr]
      clear hB hr
      go_wp2_with (at_builtin; refine appP rfl (.tmp 41) (.tmp 46) (by rfl) (w.heap.size + 4) v k (ps.map ptrV) (by rfl) ((HB.out.own.alloc _).alloc _) ⟨wr.heap.size + 1, 0, Option.none⟩ 1 1 [ptrV wr.heap.size] (by rfl) (by rfl) (news_at _ _ (by simp) _ _) (by simp [ptrV, Value.oneCell']) (by omega) (by omega) (by simp; omega) (wr.heap.size + 1 + 1) (by simp) ?_; intro g1 cap1 w1 hown1 hg1 hat1 hlt1; have cw := (HB.out.after hg1).1; have fw := (HB.out.after hg1).2)
      go_roundw
      case rel => exact ⟨k + 1, _, _, by omega, by go_num, HB.out.push hg1 hown1 hat1 rfl HR.out⟩
      case measure => simp [intOf]; omega
    · have hkn : k = n := by omega
      subst hkn
      clear hB
      go_wp2
      rw [rounds_succ]
      go_wp2
      go_ret
      exact ⟨rfl, v, ps, HB.out⟩
end Go.Proofs.Ybulkjto

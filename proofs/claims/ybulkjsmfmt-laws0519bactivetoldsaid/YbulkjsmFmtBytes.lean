/-
  SMALL LAWS ON ROWS OF BYTES THAT A CALL MAKES, AND ON CELLS CARRIED OVER NEW BLOCKS.
-/
import Derived.Test.YbulkjsmFmtRows
import Derived.WalkKit
import Derived.WalkSpells
import Derived.WalkLawsBesides
import Derived.Handy
import Derived.Deep.AppendLies
namespace Go.Proofs.YbulkjsmFmt
open Go.RowKit

theorem info5 : (Ybaf.prog.info? 5).map (fun i => (i.zero, i.size, i.bytes)) = some (some (.int .u8 0), 1, 1) := by kernel_rfl

/-- The cells of a list of numbers. -/
def cu8 (xs : List Int) : List Value := xs.map (Value.int .u8)
theorem cu8_length (xs : List Int) : (cu8 xs).length = xs.length := by simp [cu8]
theorem cu8_one (xs : List Int) : ∀ u ∈ cu8 xs, u.oneCell' = true := fun u hu => by
  obtain ⟨n, _, rfl⟩ := List.mem_map.1 hu
  rfl
theorem cu8_append (xs ys : List Int) : cu8 (xs ++ ys) = cu8 xs ++ cu8 ys := by simp [cu8]

/-- A new block that holds just these cells is owned by a slice at its head. -/
theorem owns_new (w : World) (base : Nat) (e : TypeId) (vs : List Value) (n : Nat) (hn : vs.length = n) (hb : base ≤ w.heap.size) (hm : n ≤ maxLen) :
    (w.alloc (.cells vs.toArray e)).ownsRow base e 1 (.slice (some ⟨w.heap.size, 0, Option.none⟩) n n) n vs := by
  subst hn
  refine ⟨by simp, Or.inr ⟨w.heap.size, vs.length, vs.toArray, rfl, hb, heap_alloc_new w _, Nat.le_refl _, hm, by simp, by simp⟩⟩

/-- The cells lie behind an address. -/
def LiesAt (w : World) (ad : Addr) (news : List Value) : Prop := ∀ j u, news[j]? = some u → w.cell? (ad.add j) = some u

theorem add_block (ad : Addr) (j : Nat) : (ad.add j).block = ad.block := by
  unfold Addr.add; split <;> rfl

theorem LiesAt.below {B : Nat} {w w' : World} {ad : Addr} {news : List Value} (h : LiesAt w ad news) (hb : Below B w w') (hlt : ad.block < B) : LiesAt w' ad news := fun j u hj => by
  rw [hb.cell (by rw [add_block]; exact hlt)]; exact h j u hj
theorem LiesAt.grown {w w' : World} {row : Option Nat} {ad : Addr} {news : List Value} (h : LiesAt w ad news) (hg : w.grownBy w' row) (hne : some ad.block ≠ row) : LiesAt w' ad news := fun j u hj =>
  hg.cell (h j u hj) (by rw [add_block]; exact hne)
theorem LiesAt.alloc {w : World} {ad : Addr} {news : List Value} (h : LiesAt w ad news) (o : Obj) : LiesAt (w.alloc o) ad news := fun j u hj =>
  (World.grownBy_alloc w o Option.none).cell (h j u hj) (by simp)
theorem LiesAt.drew {w : World} {ad : Addr} {news : List Value} (h : LiesAt w ad news) : LiesAt w.drew ad news := fun j u hj => h j u hj

/-- What is owned lies behind its address. -/
theorem lies_of_owns {w : World} {base : Nat} {e : TypeId} {g n cap : Nat} {xs : List Value} (h : w.ownsRow base e 1 (.slice (some ⟨g, 0, Option.none⟩) n cap) n xs) : LiesAt w ⟨g, 0, Option.none⟩ xs := fun j u hj => by
  obtain ⟨hx, h⟩ := h
  rcases h with ⟨h, _⟩ | ⟨g', cap', cur, hv, _, hh, _, _, _, ht⟩
  · cases h
  · cases hv
    have hlt : j < xs.length := by
      rcases Nat.lt_or_ge j xs.length with hj' | hj'
      · exact hj'
      · rw [List.getElem?_eq_none hj'] at hj; cases hj
    refine World.news_of_block hh j u ?_
    rw [← ht, List.getElem?_take] at hj
    split at hj
    · exact hj
    · cases hj

theorem owns_block_lt {w : World} {base : Nat} {e : TypeId} {g n cap : Nat} {xs : List Value} (h : w.ownsRow base e 1 (.slice (some ⟨g, 0, Option.none⟩) n cap) n xs) : base ≤ g ∧ g < w.heap.size := by
  obtain ⟨_, h⟩ := h
  rcases h with ⟨h, _⟩ | ⟨g', cap', cur, hv, hb, hh, _, _, _, ht⟩
  · cases h
  · cases hv
    exact ⟨hb, (Array.getElem?_eq_some_iff.1 hh).1⟩

theorem owns_below {B : Nat} {w w' : World} {base : Nat} {e : TypeId} {g n cap : Nat} {xs : List Value} (h : w.ownsRow base e 1 (.slice (some ⟨g, 0, Option.none⟩) n cap) n xs) (hb : Below B w w') (hlt : g < B) :
    w'.ownsRow base e 1 (.slice (some ⟨g, 0, Option.none⟩) n cap) n xs := by
  obtain ⟨hx, h⟩ := h
  refine ⟨hx, ?_⟩
  rcases h with ⟨h, _⟩ | ⟨g', cap', cur, hv, hb', hh, h1, h2, h3, ht⟩
  · cases h
  · cases hv
    exact Or.inr ⟨g, cap, cur, rfl, hb', by rw [hb.block g hlt]; exact hh, h1, h2, h3, ht⟩
theorem owns_base {w : World} {base base' : Nat} {e : TypeId} {g n cap : Nat} {xs : List Value} (h : w.ownsRow base e 1 (.slice (some ⟨g, 0, Option.none⟩) n cap) n xs) (hb : base' ≤ base) :
    w.ownsRow base' e 1 (.slice (some ⟨g, 0, Option.none⟩) n cap) n xs := by
  obtain ⟨hx, h⟩ := h
  refine ⟨hx, ?_⟩
  rcases h with ⟨h, _⟩ | ⟨g', cap', cur, hv, hb', hh, h1, h2, h3, ht⟩
  · cases h
  · exact Or.inr ⟨g', cap', cur, hv, by omega, hh, h1, h2, h3, ht⟩

theorem lies_ints {w : World} {g n : Nat} {xs : List Int} (h : LiesAt w ⟨g, 0, Option.none⟩ (cu8 xs)) (hl : xs.length = n) : ∀ i, i < n → w.cell? ⟨g, 0 + i, Option.none⟩ = some (.int .u8 (xs.getD i 0)) := fun i hi => by
  have hadd : (⟨g, 0, Option.none⟩ : Addr).add i = ⟨g, 0 + i, Option.none⟩ := by unfold Addr.add; split <;> simp_all
  rw [← hadd]
  refine h i _ ?_
  have hi' : i < xs.length := by omega
  simp [cu8, List.getElem?_eq_getElem hi', List.getD]

/-- THE APPEND OF BYTES ONTO nil OR ONTO A ROW OF THE CALL's OWN, at this dump's numbers. -/
theorem app {w : World} {ops : Array Oper} {rest : List Oper} {o : Oper} {a : Act} {Q : Exit → Act → World → Prop} (hgd : o.guard = Option.none) (s x : Operand)
    (ho : o.op = .call { callee := .builtin .append, args := #[s, x], argTypes := #[23, 23] })
    (base : Nat) (v : Value) (n : Nat) (xs : List Value) (hs : a.eval s = v) (hown : w.ownsRow base 5 1 v n xs)
    (ad : Addr) (m c : Nat) (news : List Value) (hx : a.eval x = .slice (some ad) m c) (hl : news.length = m) (hnews : LiesAt w ad news) (h1 : ∀ u ∈ news, u.oneCell' = true)
    (hm : 0 < m) (hbd : n + m ≤ 1000000) (hbase : base ≤ w.heap.size)
    (h : ∀ g cap w', w'.ownsRow base 5 1 (.slice (some ⟨g, 0, Option.none⟩) (n + m) cap) (n + m) (xs ++ news) → w.grownBy w' v.ownBlock → (v.ownBlock = some g ∨ g = w.heap.size) → g < w'.heap.size → wpList Ybaf.prog ops Q rest (a.put o.dst (.slice (some ⟨g, 0, Option.none⟩) (n + m) cap)) w') : wpList Ybaf.prog ops Q (o :: rest) a w := by
  obtain ⟨i0, hi, hz0, hz1, hz2⟩ := info_parts info5
  exact wpList_append_lies w hgd s x 23 ho base 5 i0 (.int .u8 0) 1 1 Ybaf.underlying23 hi hz0 hz1 hz2 rfl (by decide) v n xs hs hown ad m c news hx (by omega) hnews h1 hm (by unfold maxLen; omega) (by omega) hbase _ rfl h

/-- The same at a step of a region that draws its order. -/
theorem app_step {w : World} {ops : Array Oper} {o : Oper} {a : Act} {K : Act → World → Prop} {Q : Exit → Act → World → Prop} {E : Prop} (hgd : o.guard = Option.none) (s x : Operand)
    (ho : o.op = .call { callee := .builtin .append, args := #[s, x], argTypes := #[23, 23] })
    (base : Nat) (v : Value) (n : Nat) (xs : List Value) (hs : a.eval s = v) (hown : w.ownsRow base 5 1 v n xs)
    (ad : Addr) (m c : Nat) (news : List Value) (hx : a.eval x = .slice (some ad) m c) (hl : news.length = m) (hnews : LiesAt w ad news) (h1 : ∀ u ∈ news, u.oneCell' = true)
    (hm : 0 < m) (hbd : n + m ≤ 1000000) (hbase : base ≤ w.heap.size)
    (h : ∀ g cap w', w'.ownsRow base 5 1 (.slice (some ⟨g, 0, Option.none⟩) (n + m) cap) (n + m) (xs ++ news) → w.grownBy w' v.ownBlock → (v.ownBlock = some g ∨ g = w.heap.size) → g < w'.heap.size → K (a.put o.dst (.slice (some ⟨g, 0, Option.none⟩) (n + m) cap)) w') :
    if Region.wanted o (yielded ops a.tmps) = true then Oper.wp Ybaf.prog o a w K Q else E := by
  obtain ⟨i0, hi, hz0, hz1, hz2⟩ := info_parts info5
  exact step_append_lies w hgd s x 23 ho base 5 i0 (.int .u8 0) 1 1 Ybaf.underlying23 hi hz0 hz1 hz2 rfl (by decide) v n xs hs hown ad m c news hx (by omega) hnews h1 hm (by unfold maxLen; omega) (by omega) hbase _ rfl h

/-- Below a bound that the row written to does not lie under. -/
theorem below_of_grown {w w' : World} {row : Option Nat} {B : Nat} (hg : w.grownBy w' row) (hB : B ≤ w.heap.size) (hr : ∀ k, row = some k → B ≤ k) : Below B w w' := (Below.refl _ _).grown hg hB hr
theorem lies_new (w : World) (e : TypeId) (vs : List Value) : LiesAt (w.alloc (.cells vs.toArray e)) ⟨w.heap.size, 0, Option.none⟩ vs :=
  fun j u hj => World.news_of_block (heap_alloc_new w _) j u (by simpa using hj)
theorem lies_at (w : World) (B : Nat) (hB : w.heap.size = B) (e : TypeId) (vs : List Value) : LiesAt (w.alloc (.cells vs.toArray e)) ⟨B, 0, Option.none⟩ vs := by
  subst hB; exact lies_new w e vs
theorem owns_at (w : World) (B : Nat) (hB : w.heap.size = B) (base : Nat) (e : TypeId) (vs : List Value) (n : Nat) (hn : vs.length = n) (hb : base ≤ B) (hm : n ≤ maxLen) :
    (w.alloc (.cells vs.toArray e)).ownsRow base e 1 (.slice (some ⟨B, 0, Option.none⟩) n n) n vs := by
  subst hB; exact owns_new w base e vs n hn hb hm
theorem owns_drew {w : World} {base : Nat} {e : TypeId} {v : Value} {n : Nat} {xs : List Value} (h : w.ownsRow base e 1 v n xs) : w.drew.ownsRow base e 1 v n xs := h
theorem one_cons4 {k : IntKind} (a b c d : Int) {news : List Value} (h : ∀ u ∈ news, u.oneCell' = true) : ∀ u ∈ [Value.int k a, Value.int k b, Value.int k c, Value.int k d] ++ news, u.oneCell' = true := by
  intro u hu
  rcases List.mem_append.1 hu with hu | hu
  · simp at hu; rcases hu with rfl | rfl | rfl | rfl <;> rfl
  · exact h u hu
theorem one_comp {k : IntKind} (a b c d e f g h : Int) {news : List Value} (hn : ∀ u ∈ news, u.oneCell' = true) : ∀ u ∈ [Value.int k a, Value.int k b, Value.int k c, Value.int k d, Value.int k e, Value.int k f, Value.int k g, Value.int k h] ++ news, u.oneCell' = true := by
  intro u hu
  rcases List.mem_append.1 hu with hu | hu
  · simp at hu; rcases hu with rfl | rfl | rfl | rfl | rfl | rfl | rfl | rfl <;> rfl
  · exact hn u hu
theorem ret_slice {a : Option Addr} {n m c : Nat} (h : n = m) : Ending.returned (.slice a n c) = .returned (.slice a m c) := by rw [h]
theorem one_ints2 {k : IntKind} (a b : Int) : ∀ u ∈ [Value.int k a, Value.int k b], u.oneCell' = true := by
  intro u hu; simp at hu; rcases hu with rfl | rfl <;> rfl
end Go.Proofs.YbulkjsmFmt

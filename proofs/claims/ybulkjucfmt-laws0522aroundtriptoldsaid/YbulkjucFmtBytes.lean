/-
  ROWS THAT A CALL GROWS, nil OR NOT, AND WHAT IS APPENDED TO THEM.
-/
import Derived.Test.YbulkjucFmtRows
import Derived.WalkKit
import Derived.WalkSpells
import Derived.WalkLawsBesides
import Derived.Handy
import Derived.Deep.AppendLies
import Derived.Maps.AppendAt
import Derived.Maps.Range
import Derived.Laws.AppendOwnNone
namespace Go.Proofs.YbulkjucFmt
open Go.RowKit

theorem info5 : (Ybaf.prog.info? 5).map (fun i => (i.zero, i.size, i.bytes)) = some (some (.int .u8 0), 1, 1) := by kernel_rfl
theorem info34 : (Ybaf.prog.info? 34).map (fun i => (i.zero, i.size, i.bytes)) = some (some (.int .u16 0), 1, 2) := by kernel_rfl

/-- The cells of a list of bytes; of a list of 16-bit numbers. -/
def cu8 (xs : List Int) : List Value := xs.map (Value.int .u8)
def cu16 (xs : List Int) : List Value := xs.map (Value.int .u16)
theorem cu8_length (xs : List Int) : (cu8 xs).length = xs.length := by simp [cu8]
theorem cu16_length (xs : List Int) : (cu16 xs).length = xs.length := by simp [cu16]
theorem cu8_one (xs : List Int) : ∀ u ∈ cu8 xs, u.oneCell' = true := fun u hu => by
  obtain ⟨n, _, rfl⟩ := List.mem_map.1 hu
  rfl
theorem cu16_one (xs : List Int) : ∀ u ∈ cu16 xs, u.oneCell' = true := fun u hu => by
  obtain ⟨n, _, rfl⟩ := List.mem_map.1 hu
  rfl
theorem cu8_append (xs ys : List Int) : cu8 (xs ++ ys) = cu8 xs ++ cu8 ys := by simp [cu8]
theorem cu16_append (xs ys : List Int) : cu16 (xs ++ ys) = cu16 xs ++ cu16 ys := by simp [cu16]

/-- The cells lie behind an address. -/
def LiesAt (w : World) (b off : Nat) (news : List Value) : Prop := ∀ j u, news[j]? = some u → w.cell? ⟨b, off + j, none⟩ = some u
theorem add_plain (b off j : Nat) : (⟨b, off, none⟩ : Addr).add j = ⟨b, off + j, none⟩ := by
  unfold Addr.add; split <;> simp_all

/-- The block of an address, if there is one. -/
def blk (oa : Option Addr) : Option Nat := oa.map Addr.block
theorem ownBlock_slice (oa : Option Addr) (n c : Nat) : (Value.slice oa n c).ownBlock = blk oa := by
  cases oa <;> rfl

/-- A slice to be read: nil, or its cells lie behind its address. -/
def Src (w : World) (oa : Option Addr) (m : Nat) (size : Nat) (c : Nat) (news : List Value) : Prop :=
  news.length = m * size ∧ ((oa = none ∧ m = 0 ∧ c = 0) ∨ ∃ b off, oa = some ⟨b, off, none⟩ ∧ b < w.heap.size ∧ LiesAt w b off news)

/-- The world grew, by the row at 'oa' that now lies at 'oa2'. -/
structure Grew (w w' : World) (oa oa2 : Option Addr) : Prop where
  grown : w.grownBy w' (blk oa)
  at_ : ∀ g, blk oa2 = some g → blk oa = some g ∨ w.heap.size ≤ g

theorem Grew.refl (w : World) (oa : Option Addr) : Grew w w oa oa := ⟨World.grownBy.refl w _, fun _ h => Or.inl h⟩
theorem Grew.trans {a b c : World} {o1 o2 o3 : Option Addr} (h : Grew a b o1 o2) (k : Grew b c o2 o3) : Grew a c o1 o3 := by
  refine ⟨h.grown.andThen k.grown fun j hj => (h.at_ j hj).symm, fun g hg => ?_⟩
  rcases k.at_ g hg with h1 | h1
  · exact h.at_ g h1
  · exact Or.inr (Nat.le_trans h.grown.size h1)
theorem Grew.size {a b : World} {o1 o2 : Option Addr} (h : Grew a b o1 o2) : a.heap.size ≤ b.heap.size := h.grown.size
theorem Grew.alloc (w : World) (o : Obj) (oa : Option Addr) : Grew w (w.alloc o) oa oa := ⟨World.grownBy_alloc w o _, fun _ h => Or.inl h⟩
/-- Another row, begun from nil. -/
theorem Grew.aside {a b : World} {o1 o2 : Option Addr} (h : Grew a b none o2) : Grew a b o1 o1 := ⟨h.grown.but _, fun _ h => Or.inl h⟩
theorem Grew.below {w w' : World} {oa oa2 : Option Addr} {B : Nat} (h : Grew w w' oa oa2) (hB : B ≤ w.heap.size) (hr : ∀ k, blk oa = some k → B ≤ k) : Below B w w' :=
  (Below.refl _ _).grown h.grown hB hr
theorem Grew.ge {w w' : World} {oa oa2 : Option Addr} {B : Nat} (h : Grew w w' oa oa2) (hB : B ≤ w.heap.size) (hr : ∀ k, blk oa = some k → B ≤ k) : ∀ k, blk oa2 = some k → B ≤ k := fun k hk => by
  rcases h.at_ k hk with h1 | h1
  · exact hr k h1
  · omega
theorem Grew.drew {w w' : World} {oa oa2 : Option Addr} (h : Grew w.drew w' oa oa2) (ht : w'.tape = w.tape) : Grew w w' oa oa2 :=
  ⟨⟨h.grown.os, ht, h.grown.output, h.grown.size, h.grown.block⟩, h.at_⟩

theorem Src.grew {w w' : World} {oa oa2 ob : Option Addr} {m size c : Nat} {news : List Value} (h : Src w ob m size c news) (hg : Grew w w' oa oa2) (hne : ∀ k, blk ob = some k → blk oa ≠ some k) : Src w' ob m size c news := by
  refine ⟨h.1, ?_⟩
  rcases h.2 with h1 | ⟨b, off, rfl, h0, h1⟩
  · exact Or.inl h1
  · exact Or.inr ⟨b, off, rfl, Nat.lt_of_lt_of_le h0 hg.size, fun j u hj => hg.grown.cell (h1 j u hj) fun e => hne b rfl e.symm⟩
theorem Src.below {B : Nat} {w w' : World} {ob : Option Addr} {m size c : Nat} {news : List Value} (h : Src w ob m size c news) (hb : Below B w w') (hlt : ∀ k, blk ob = some k → k < B) : Src w' ob m size c news := by
  refine ⟨h.1, ?_⟩
  rcases h.2 with h1 | ⟨b, off, rfl, h0, h1⟩
  · exact Or.inl h1
  · refine Or.inr ⟨b, off, rfl, Nat.lt_of_lt_of_le h0 hb.size, fun j u hj => ?_⟩
    rw [hb.cell (p := ⟨b, off + j, none⟩) (hlt _ rfl)]
    exact h1 j u hj
theorem Src.drew {w : World} {ob : Option Addr} {m size c : Nat} {news : List Value} (h : Src w ob m size c news) : Src w.drew ob m size c news := h
theorem Src.lt {w : World} {ob : Option Addr} {m size c : Nat} {news : List Value} (h : Src w ob m size c news) : ∀ k, blk ob = some k → k < w.heap.size := fun k hk => by
  rcases h.2 with ⟨rfl, _⟩ | ⟨b, off, rfl, h0, _⟩
  · cases hk
  · cases hk; exact h0
/-- What lay before a new row was begun is not in it. -/
theorem Src.apart {w w' : World} {oa2 ob : Option Addr} {m size c : Nat} {news : List Value} (h : Src w ob m size c news) (hg : Grew w w' none oa2) : ∀ k, blk ob = some k → blk oa2 ≠ some k := fun k hk e => by
  rcases hg.at_ k e with h1 | h1
  · cases h1
  · have := h.lt k hk; omega
theorem Src.nil (w : World) (size : Nat) : Src w none 0 size 0 [] := ⟨by simp, Or.inl ⟨rfl, rfl, rfl⟩⟩

theorem src_of_owns {w : World} {base : Nat} {e : TypeId} {size : Nat} {oa : Option Addr} {n cap : Nat} {xs : List Value} (h : w.ownsRow base e size (.slice oa n cap) n xs) : Src w oa n size cap xs := by
  obtain ⟨hx, h⟩ := h
  refine ⟨hx, ?_⟩
  rcases h with ⟨h, rfl⟩ | ⟨g', cap', cur, hv, _, hh, _, _, _, ht⟩
  · cases h; exact Or.inl ⟨rfl, rfl, rfl⟩
  · cases hv
    refine Or.inr ⟨_, _, rfl, (Array.getElem?_eq_some_iff.1 hh).1, fun j u hj => ?_⟩
    rw [← add_plain]
    refine World.news_of_block hh j u ?_
    rw [← ht, List.getElem?_take] at hj
    split at hj
    · exact hj
    · cases hj
theorem src_new (w : World) (e : TypeId) (vs : List Value) (n : Nat) (size : Nat) (c : Nat) (hn : vs.length = n * size) : Src (w.alloc (.cells vs.toArray e)) (some ⟨w.heap.size, 0, none⟩) n size c vs :=
  ⟨hn, Or.inr ⟨_, _, rfl, by simp, fun j u hj => by rw [← add_plain]; exact World.news_of_block (heap_alloc_new w _) j u (by simpa using hj)⟩⟩
theorem owns_lt {w : World} {base : Nat} {e : TypeId} {size : Nat} {oa : Option Addr} {n cap : Nat} {xs : List Value} (h : w.ownsRow base e size (.slice oa n cap) n xs) : ∀ k, blk oa = some k → base ≤ k ∧ k < w.heap.size := fun k hk =>
  h.lt k (by rw [ownBlock_slice]; exact hk)
theorem owns_kept {w w' : World} {base : Nat} {e : TypeId} {size : Nat} {oa o1 o2 : Option Addr} {n cap : Nat} {xs : List Value} (h : w.ownsRow base e size (.slice oa n cap) n xs) (hg : Grew w w' o1 o2) (hne : ∀ k, blk oa = some k → blk o1 ≠ some k) : w'.ownsRow base e size (.slice oa n cap) n xs := by
  obtain ⟨hx, h⟩ := h
  refine ⟨hx, ?_⟩
  rcases h with h | ⟨g', cap', cur, hv, hb', hh, h1, h2, h3, ht⟩
  · exact Or.inl h
  · cases hv
    refine Or.inr ⟨_, _, cur, rfl, hb', ?_, h1, h2, h3, ht⟩
    rw [hg.grown.block g' (Array.getElem?_eq_some_iff.1 hh).1 fun e => hne g' rfl e.symm]
    exact hh
theorem owns_below {B : Nat} {w w' : World} {base : Nat} {e : TypeId} {size : Nat} {oa : Option Addr} {n cap : Nat} {xs : List Value} (h : w.ownsRow base e size (.slice oa n cap) n xs) (hb : Below B w w') (hlt : ∀ k, blk oa = some k → k < B) : w'.ownsRow base e size (.slice oa n cap) n xs := by
  obtain ⟨hx, h⟩ := h
  refine ⟨hx, ?_⟩
  rcases h with h | ⟨g', cap', cur, hv, hb', hh, h1, h2, h3, ht⟩
  · exact Or.inl h
  · cases hv
    exact Or.inr ⟨_, _, cur, rfl, hb', by rw [hb.block g' (hlt g' rfl)]; exact hh, h1, h2, h3, ht⟩
theorem owns_base {w : World} {base base' : Nat} {e : TypeId} {size : Nat} {v : Value} {n : Nat} {xs : List Value} (h : w.ownsRow base e size v n xs) (hb : base' ≤ base) : w.ownsRow base' e size v n xs := by
  obtain ⟨hx, h⟩ := h
  refine ⟨hx, ?_⟩
  rcases h with h | ⟨g', cap', cur, hv, hb', hh, h1, h2, h3, ht⟩
  · exact Or.inl h
  · exact Or.inr ⟨g', cap', cur, hv, by omega, hh, h1, h2, h3, ht⟩
theorem owns_new (w : World) (base : Nat) (e : TypeId) (vs : List Value) (n : Nat) (size : Nat) (hn : vs.length = n * size) (hb : base ≤ w.heap.size) (hm : n ≤ maxLen) :
    (w.alloc (.cells vs.toArray e)).ownsRow base e size (.slice (some ⟨w.heap.size, 0, none⟩) n n) n vs :=
  ⟨hn, Or.inr ⟨w.heap.size, n, vs.toArray, rfl, hb, heap_alloc_new w _, Nat.le_refl _, hm, by simp [hn], by rw [← hn]; simp⟩⟩
theorem owns_shape {w : World} {base : Nat} {e : TypeId} {size : Nat} {v : Value} {n : Nat} {xs : List Value} (h : w.ownsRow base e size v n xs) : ∃ oa cap, v = .slice oa n cap := by
  rcases h.2 with ⟨h1, h2⟩ | ⟨g', cap', cur, hv, _⟩
  · exact ⟨none, 0, by rw [h1, h2]⟩
  · exact ⟨_, _, hv⟩

/-- THE APPEND ONTO nil OR A ROW OF ONE's OWN, of nil or of cells that lie. -/
theorem appG {w : World} {ops : Array Oper} {rest : List Oper} {o : Oper} {a : Act} {Q : Exit → Act → World → Prop} (hgd : o.guard = none) (s x : Operand) (t e : TypeId) (z : Value) (size bytes : Nat)
    (ho : o.op = .call { callee := .builtin .append, args := #[s, x], argTypes := #[t, t] }) (ht : Ybaf.prog.underlying t = some (.slice e)) (hi : (Ybaf.prog.info? e).map (fun i => (i.zero, i.size, i.bytes)) = some (some z, size, bytes)) (hzs : z.cells.size = size) (hsz : 0 < size) (hby : bytes ≤ 100)
    (base : Nat) (oa : Option Addr) (n cap : Nat) (xs : List Value) (hs : a.eval s = .slice oa n cap) (hown : w.ownsRow base e size (.slice oa n cap) n xs)
    (ob : Option Addr) (m c : Nat) (news : List Value) (hx : a.eval x = .slice ob m c) (hsrc : Src w ob m size c news) (h1 : ∀ u ∈ news, u.oneCell' = true)
    (hbd : n + m ≤ 1000000) (hbase : base ≤ w.heap.size)
    (h : ∀ oa2 cap2 w', w'.ownsRow base e size (.slice oa2 (n + m) cap2) (n + m) (xs ++ news) → Grew w w' oa oa2 → wpList Ybaf.prog ops Q rest (a.put o.dst (.slice oa2 (n + m) cap2)) w') : wpList Ybaf.prog ops Q (o :: rest) a w := by
  obtain ⟨i0, hi, hz0, hz1, hz2⟩ := info_parts hi
  obtain ⟨hl, hsrc⟩ := hsrc
  rcases hsrc with ⟨rfl, rfl, rfl⟩ | ⟨b, off, rfl, _, hnews⟩
  · refine wpList_append_own_none hgd s x t ho base e i0 size ht hi _ n xs hs hown hx ?_
    have hn : news = [] := List.eq_nil_of_length_eq_zero (by rw [hl]; simp)
    subst hn
    exact h oa cap w (by simpa using hown) (Grew.refl _ _)
  · refine wpList_append_own_at w hgd s x t ho base e i0 z size bytes ht hi hz0 hz1 hz2 hzs hsz _ n xs hs hown ⟨b, off, none⟩ m c news hx hl (fun j u hj => by rw [add_plain]; exact hnews j u hj) h1 (by unfold maxLen; omega) ?_ hbase ?_
    · calc (n + m) * bytes ≤ 1000000 * 100 := Nat.mul_le_mul hbd hby
        _ ≤ 140737488355328 := by omega
    · intro v' w' h2 h3 _ h5
      obtain ⟨oa2, cap2, rfl⟩ := owns_shape h2
      rw [ownBlock_slice] at h3
      rw [ownBlock_slice, ownBlock_slice] at h5
      refine h oa2 cap2 w' h2 ⟨h3, fun g hg => ?_⟩
      rcases h5 with h5 | h5
      · exact Or.inl (by rw [← h5]; exact hg)
      · rw [h5] at hg; cases hg; exact Or.inr (Nat.le_refl _)
/-- The same for bytes. -/
theorem app8 {w : World} {ops : Array Oper} {rest : List Oper} {o : Oper} {a : Act} {Q : Exit → Act → World → Prop} (hgd : o.guard = none) (s x : Operand)
    (ho : o.op = .call { callee := .builtin .append, args := #[s, x], argTypes := #[23, 23] })
    (base : Nat) (oa : Option Addr) (n cap : Nat) (xs : List Int) (hs : a.eval s = .slice oa n cap) (hown : w.ownsRow base 5 1 (.slice oa n cap) n (cu8 xs))
    (ob : Option Addr) (m c : Nat) (news : List Int) (hx : a.eval x = .slice ob m c) (hsrc : Src w ob m 1 c (cu8 news))
    (hbd : n + m ≤ 1000000) (hbase : base ≤ w.heap.size)
    (h : ∀ oa2 cap2 w', w'.ownsRow base 5 1 (.slice oa2 (n + m) cap2) (n + m) (cu8 (xs ++ news)) → Grew w w' oa oa2 → wpList Ybaf.prog ops Q rest (a.put o.dst (.slice oa2 (n + m) cap2)) w') : wpList Ybaf.prog ops Q (o :: rest) a w :=
  appG hgd s x 23 5 (.int .u8 0) 1 1 ho Ybaf.underlying23 info5 rfl (by decide) (by decide) base oa n cap (cu8 xs) hs hown ob m c (cu8 news) hx hsrc (cu8_one _) hbd hbase (fun oa2 cap2 w' h2 h3 => h oa2 cap2 w' (by rw [cu8_append]; exact h2) h3)
theorem app16 {w : World} {ops : Array Oper} {rest : List Oper} {o : Oper} {a : Act} {Q : Exit → Act → World → Prop} (hgd : o.guard = none) (s x : Operand)
    (ho : o.op = .call { callee := .builtin .append, args := #[s, x], argTypes := #[24, 24] })
    (base : Nat) (oa : Option Addr) (n cap : Nat) (xs : List Int) (hs : a.eval s = .slice oa n cap) (hown : w.ownsRow base 34 1 (.slice oa n cap) n (cu16 xs))
    (ob : Option Addr) (m c : Nat) (news : List Int) (hx : a.eval x = .slice ob m c) (hsrc : Src w ob m 1 c (cu16 news))
    (hbd : n + m ≤ 1000000) (hbase : base ≤ w.heap.size)
    (h : ∀ oa2 cap2 w', w'.ownsRow base 34 1 (.slice oa2 (n + m) cap2) (n + m) (cu16 (xs ++ news)) → Grew w w' oa oa2 → wpList Ybaf.prog ops Q rest (a.put o.dst (.slice oa2 (n + m) cap2)) w') : wpList Ybaf.prog ops Q (o :: rest) a w :=
  appG hgd s x 24 34 (.int .u16 0) 1 2 ho Ybaf.underlying24 info34 rfl (by decide) (by decide) base oa n cap (cu16 xs) hs hown ob m c (cu16 news) hx hsrc (cu16_one _) hbd hbase (fun oa2 cap2 w' h2 h3 => h oa2 cap2 w' (by rw [cu16_append]; exact h2) h3)
theorem ret_slice {a : Option Addr} {n m c : Nat} (h : n = m) : Ending.returned (.slice a n c) = .returned (.slice a m c) := by rw [h]
end Go.Proofs.YbulkjucFmt

import Derived.Test.YbulkjucFmtHello
namespace Go.Proofs.YbulkjucFmt
open Go.RowKit

theorem info36 : (Ybaf.prog.info? 36).map (fun i => (i.zero, i.size, i.bytes)) = some (some (.agg #[.int .u16 0, .slice none 0 0]), 2, 32) := by kernel_rfl

/-- THE SAME APPEND AT ONE OPERATION. -/
theorem appG_op {w : World} {o : Oper} {a : Act} {K : Act → World → Prop} {Q : Exit → Act → World → Prop} (s x : Operand) (t e : TypeId) (z : Value) (size bytes : Nat)
    (ho : o.op = .call { callee := .builtin .append, args := #[s, x], argTypes := #[t, t] }) (ht : Ybaf.prog.underlying t = some (.slice e)) (hi : (Ybaf.prog.info? e).map (fun i => (i.zero, i.size, i.bytes)) = some (some z, size, bytes)) (hzs : z.cells.size = size) (hsz : 0 < size) (hby : bytes ≤ 100)
    (base : Nat) (oa : Option Addr) (n cap : Nat) (xs : List Value) (hs : a.eval s = .slice oa n cap) (hown : w.ownsRow base e size (.slice oa n cap) n xs)
    (ob : Option Addr) (m c : Nat) (news : List Value) (hx : a.eval x = .slice ob m c) (hsrc : Src w ob m size c news) (h1 : ∀ u ∈ news, u.oneCell' = true)
    (hbd : n + m ≤ 1000000) (hbase : base ≤ w.heap.size)
    (h : ∀ oa2 cap2 w', w'.ownsRow base e size (.slice oa2 (n + m) cap2) (n + m) (xs ++ news) → Grew w w' oa oa2 → K (a.put o.dst (.slice oa2 (n + m) cap2)) w') : o.wp Ybaf.prog a w K Q := by
  obtain ⟨i0, hi, hz0, hz1, hz2⟩ := info_parts hi
  obtain ⟨hl, hsrc⟩ := hsrc
  rcases hsrc with ⟨rfl, rfl, rfl⟩ | ⟨b, off, rfl, _, hnews⟩
  · have hr := run_append_owned_none (P := Ybaf.prog) (w := w) base t o.type e i0 size ht hi _ n xs hown
    have hn : news = [] := List.eq_nil_of_length_eq_zero (by rw [hl]; simp)
    subst hn
    unfold Oper.wp execOp
    simp only [ho, resolve, invoke, builtin, Sem.run_bind, Sem.run_pure, Result.andThen_ok, List.map_toArray, List.map_cons, List.map_nil, hs, hx, hr]
    exact h oa cap w (by simpa using hown) (Grew.refl _ _)
  · obtain ⟨v', w', hr, h2, h3, _, h5⟩ := run_append_own_at (P := Ybaf.prog) w base t o.type e i0 z size bytes ht hi hz0 hz1 hz2 hzs hsz _ n xs hown ⟨b, off, none⟩ m c news hl (fun j u hj => by rw [add_plain]; exact hnews j u hj) h1 (by unfold maxLen; omega) (by
      calc (n + m) * bytes ≤ 1000000 * 100 := Nat.mul_le_mul hbd hby
        _ ≤ 140737488355328 := by omega) hbase
    obtain ⟨oa2, cap2, rfl⟩ := owns_shape h2
    rw [ownBlock_slice] at h3
    rw [ownBlock_slice, ownBlock_slice] at h5
    unfold Oper.wp execOp
    simp only [ho, resolve, invoke, builtin, Sem.run_bind, Sem.run_pure, Result.andThen_ok, List.map_toArray, List.map_cons, List.map_nil, hs, hx, hr]
    refine h oa2 cap2 w' h2 ⟨h3, fun g hg => ?_⟩
    rcases h5 with h5 | h5
    · exact Or.inl (by rw [← h5]; exact hg)
    · rw [h5] at hg; cases hg; exact Or.inr (Nat.le_refl _)
theorem step_of_op {w : World} {ops : Array Oper} {o : Oper} {a : Act} {K : Act → World → Prop} {Q : Exit → Act → World → Prop} {E : Prop} (hgd : o.guard = none) (h : o.wp Ybaf.prog a w K Q) :
    if Region.wanted o (yielded ops a.tmps) = true then Oper.wp Ybaf.prog o a w K Q else E := by
  have hw : Region.wanted o (yielded ops a.tmps) = true := by simp [Region.wanted, hgd]
  rw [if_pos hw]
  exact h
/-- Bytes onto nil, at a step of a region that draws. -/
theorem app8_step0 {w : World} {ops : Array Oper} {o : Oper} {a : Act} {K : Act → World → Prop} {Q : Exit → Act → World → Prop} {E : Prop} (hgd : o.guard = none) (s x : Operand)
    (ho : o.op = .call { callee := .builtin .append, args := #[s, x], argTypes := #[23, 23] })
    (base : Nat) (hs : a.eval s = .slice none 0 0)
    (ob : Option Addr) (m c : Nat) (news : List Int) (hx : a.eval x = .slice ob m c) (hsrc : ASrc w ob m 1 c (cu8 news)) (hbd : m ≤ 1000000) (hbase : base ≤ w.heap.size)
    (h : ∀ oa2 cap2 w', w'.ownsRow base 5 1 (.slice oa2 m cap2) m (cu8 news) → Grew w w' none oa2 → K (a.put o.dst (.slice oa2 m cap2)) w') :
    if Region.wanted o (yielded ops a.tmps) = true then Oper.wp Ybaf.prog o a w K Q else E := by
  refine step_of_op hgd ?_
  rcases hsrc with hsrc | ⟨rfl, hn, ad, rfl⟩
  · exact appG_op s x 23 5 (.int .u8 0) 1 1 ho Ybaf.underlying23 info5 rfl (by decide) (by decide) base none 0 0 [] hs (World.ownsRow_nil _ _ _ _) ob m c (cu8 news) hx hsrc (cu8_one _) (by omega) hbase (fun oa2 cap2 w' h2 h3 => by
      rw [Nat.zero_add] at h2 ⊢
      exact h oa2 cap2 w' h2 h3)
  · obtain ⟨i0, hi, hz0, hz1, hz2⟩ := info_parts info5
    obtain ⟨v', w', hr, h2, h3, _, h5⟩ := run_append_own_at (P := Ybaf.prog) w base 23 o.type 5 i0 (.int .u8 0) 1 1 Ybaf.underlying23 hi hz0 hz1 hz2 rfl (by decide) (.slice none 0 0) 0 [] (World.ownsRow_nil _ _ _ _) ad 0 c [] rfl (by simp) (by simp) (by decide) (by decide) hbase
    obtain ⟨oa2, cap2, rfl⟩ := owns_shape h2
    rw [ownBlock_slice] at h3
    rw [ownBlock_slice, ownBlock_slice] at h5
    unfold Oper.wp execOp
    simp only [ho, resolve, invoke, builtin, Sem.run_bind, Sem.run_pure, Result.andThen_ok, List.map_toArray, List.map_cons, List.map_nil, hs, hx, hr]
    refine h oa2 cap2 w' (by rw [hn]; exact h2) ⟨h3, fun g hg => ?_⟩
    rcases h5 with h5 | h5
    · exact Or.inl (by rw [← h5]; exact hg)
    · rw [h5] at hg; cases hg; exact Or.inr (Nat.le_refl _)
/-- Bytes, at a step of a region that draws. -/
theorem app8_step {w : World} {ops : Array Oper} {o : Oper} {a : Act} {K : Act → World → Prop} {Q : Exit → Act → World → Prop} {E : Prop} (hgd : o.guard = none) (s x : Operand)
    (ho : o.op = .call { callee := .builtin .append, args := #[s, x], argTypes := #[23, 23] })
    (base : Nat) (oa : Option Addr) (n cap : Nat) (xs : List Int) (hs : a.eval s = .slice oa n cap) (hown : w.ownsRow base 5 1 (.slice oa n cap) n (cu8 xs))
    (ob : Option Addr) (m c : Nat) (news : List Int) (hx : a.eval x = .slice ob m c) (hsrc : Src w ob m 1 c (cu8 news)) (hbd : n + m ≤ 1000000) (hbase : base ≤ w.heap.size)
    (h : ∀ oa2 cap2 w', w'.ownsRow base 5 1 (.slice oa2 (n + m) cap2) (n + m) (cu8 (xs ++ news)) → Grew w w' oa oa2 → K (a.put o.dst (.slice oa2 (n + m) cap2)) w') :
    if Region.wanted o (yielded ops a.tmps) = true then Oper.wp Ybaf.prog o a w K Q else E :=
  step_of_op hgd (appG_op s x 23 5 (.int .u8 0) 1 1 ho Ybaf.underlying23 info5 rfl (by decide) (by decide) base oa n cap (cu8 xs) hs hown ob m c (cu8 news) hx hsrc (cu8_one _) hbd hbase (fun oa2 cap2 w' h2 h3 => h oa2 cap2 w' (by rw [cu8_append]; exact h2) h3))
/-- One extension, at a step of a region that draws. -/
theorem appE_step {w : World} {ops : Array Oper} {o : Oper} {a : Act} {K : Act → World → Prop} {Q : Exit → Act → World → Prop} {E : Prop} (hgd : o.guard = none) (s x : Operand)
    (ho : o.op = .call { callee := .builtin .append, args := #[s, x], argTypes := #[30, 30] })
    (base : Nat) (oa : Option Addr) (n cap : Nat) (es : List EX) (hs : a.eval s = .slice oa n cap) (hown : w.ownsRow base 36 2 (.slice oa n cap) n (ecells es))
    (ob : Option Addr) (c : Nat) (y : EX) (hx : a.eval x = .slice ob 1 c) (hsrc : Src w ob 1 2 c y.cells) (hbd : n + 1 ≤ 1000000) (hbase : base ≤ w.heap.size)
    (h : ∀ oa2 cap2 w', w'.ownsRow base 36 2 (.slice oa2 (n + 1) cap2) (n + 1) (ecells (es ++ [y])) → Grew w w' oa oa2 → K (a.put o.dst (.slice oa2 (n + 1) cap2)) w') :
    if Region.wanted o (yielded ops a.tmps) = true then Oper.wp Ybaf.prog o a w K Q else E :=
  step_of_op hgd (appG_op s x 30 36 (.agg #[.int .u16 0, .slice none 0 0]) 2 32 ho Ybaf.underlying30 info36 rfl (by decide) (by decide) base oa n cap (ecells es) hs hown ob 1 c y.cells hx hsrc (by simp [EX.cells, Value.oneCell']) hbd hbase (fun oa2 cap2 w' h2 h3 => h oa2 cap2 w' (by rw [show ecells (es ++ [y]) = ecells es ++ y.cells from by simp [ecells]]; exact h2) h3))
/-- Bytes, and 16-bit numbers, onto nil. -/
theorem app8_0 {w : World} {ops : Array Oper} {rest : List Oper} {o : Oper} {a : Act} {Q : Exit → Act → World → Prop} (hgd : o.guard = none) (s x : Operand)
    (ho : o.op = .call { callee := .builtin .append, args := #[s, x], argTypes := #[23, 23] })
    (base : Nat) (hs : a.eval s = .slice none 0 0)
    (ob : Option Addr) (m c : Nat) (news : List Int) (hx : a.eval x = .slice ob m c) (hsrc : Src w ob m 1 c (cu8 news)) (hbd : m ≤ 1000000) (hbase : base ≤ w.heap.size)
    (h : ∀ oa2 cap2 w', w'.ownsRow base 5 1 (.slice oa2 m cap2) m (cu8 news) → Grew w w' none oa2 → wpList Ybaf.prog ops Q rest (a.put o.dst (.slice oa2 m cap2)) w') : wpList Ybaf.prog ops Q (o :: rest) a w :=
  app8 hgd s x ho base none 0 0 [] hs (World.ownsRow_nil _ _ _ _) ob m c news hx hsrc (by omega) hbase (fun oa2 cap2 w' h2 h3 => by
    rw [Nat.zero_add] at h2 ⊢
    exact h oa2 cap2 w' h2 h3)
theorem app16_0 {w : World} {ops : Array Oper} {rest : List Oper} {o : Oper} {a : Act} {Q : Exit → Act → World → Prop} (hgd : o.guard = none) (s x : Operand)
    (ho : o.op = .call { callee := .builtin .append, args := #[s, x], argTypes := #[24, 24] })
    (base : Nat) (hs : a.eval s = .slice none 0 0)
    (ob : Option Addr) (m c : Nat) (news : List Int) (hx : a.eval x = .slice ob m c) (hsrc : Src w ob m 1 c (cu16 news)) (hbd : m ≤ 1000000) (hbase : base ≤ w.heap.size)
    (h : ∀ oa2 cap2 w', w'.ownsRow base 34 1 (.slice oa2 m cap2) m (cu16 news) → Grew w w' none oa2 → wpList Ybaf.prog ops Q rest (a.put o.dst (.slice oa2 m cap2)) w') : wpList Ybaf.prog ops Q (o :: rest) a w :=
  app16 hgd s x ho base none 0 0 [] hs (World.ownsRow_nil _ _ _ _) ob m c news hx hsrc (by omega) hbase (fun oa2 cap2 w' h2 h3 => by
    rw [Nat.zero_add] at h2 ⊢
    exact h oa2 cap2 w' h2 h3)

/-- Four cells in a block. -/
def Blk4 (w : World) (hb : Nat) (a b c d : Value) : Prop := w.heap[hb]? = some (.cells #[a, b, c, d] 32 (0, 0))
section
variable {w w' : World} {hb : Nat} {a b c d : Value} {o1 o2 : Option Addr}
theorem Blk4.cell0 (h : Blk4 w hb a b c d) : w.cell? ⟨hb, 0, none⟩ = some a := by rw [cell_of_row _ _ _ _ _ _ h]; rfl
theorem Blk4.cell1 (h : Blk4 w hb a b c d) : w.cell? ⟨hb, 1, none⟩ = some b := by rw [cell_of_row _ _ _ _ _ _ h]; rfl
theorem Blk4.cell2 (h : Blk4 w hb a b c d) : w.cell? ⟨hb, 2, none⟩ = some c := by rw [cell_of_row _ _ _ _ _ _ h]; rfl
theorem Blk4.cell3 (h : Blk4 w hb a b c d) : w.cell? ⟨hb, 3, none⟩ = some d := by rw [cell_of_row _ _ _ _ _ _ h]; rfl
theorem Blk4.frozen (h : Blk4 w hb a b c d) (i : Nat) : w.frozen? ⟨hb, i, none⟩ = false := by
  unfold Blk4 at h
  simp [World.frozen?, h]
theorem Blk4.lt (h : Blk4 w hb a b c d) : hb < w.heap.size := (Array.getElem?_eq_some_iff.1 h).1
theorem Blk4.grew (h : Blk4 w hb a b c d) (hg : Grew w w' o1 o2) (hne : blk o1 ≠ some hb) : Blk4 w' hb a b c d := by
  unfold Blk4
  rw [hg.grown.block hb h.lt fun e => hne e.symm]
  exact h
theorem Blk4.set1 (h : Blk4 w hb a b c d) (v : Value) : Blk4 (w.setCell ⟨hb, 1, none⟩ v) hb a v c d := heap_setCell_same w hb 1 _ _ v h
theorem Blk4.set2 (h : Blk4 w hb a b c d) (v : Value) : Blk4 (w.setCell ⟨hb, 2, none⟩ v) hb a b v d := heap_setCell_same w hb 2 _ _ v h
theorem Blk4.set3 (h : Blk4 w hb a b c d) (v : Value) : Blk4 (w.setCell ⟨hb, 3, none⟩ v) hb a b c v := heap_setCell_same w hb 3 _ _ v h
/-- A store into a block is a growth of that block. -/
theorem grew_set (w : World) (hb i : Nat) (v : Value) : Grew w (w.setCell ⟨hb, i, none⟩ v) (some ⟨hb, 0, none⟩) (some ⟨hb, 0, none⟩) :=
  ⟨⟨rfl, rfl, rfl, by simp, fun k _ hk => heap_setCell_other w _ k v (fun e => hk (by rw [e]; rfl))⟩, fun _ h => Or.inl h⟩
/-- Rows of different elements lie in different blocks. -/
theorem owns_ne {base base' : Nat} {e e' : TypeId} {size size' : Nat} {oa oa' : Option Addr} {n n' cap cap' : Nat} {xs xs' : List Value} (h : w.ownsRow base e size (.slice oa n cap) n xs) (h' : w.ownsRow base' e' size' (.slice oa' n' cap') n' xs') (hne : e ≠ e') : ∀ k, blk oa = some k → blk oa' ≠ some k := by
  intro k hk hk'
  rcases h.2 with ⟨h1, _⟩ | ⟨g, _, cur, h1, _, hh, _⟩
  · cases h1; cases hk
  · cases h1
    cases hk
    rcases h'.2 with ⟨h2, _⟩ | ⟨g', _, cur', h2, _, hh', _⟩
    · cases h2; cases hk'
    · cases h2
      cases hk'
      rw [hh] at hh'
      simp at hh'
      exact hne hh'.2
theorem owns_ne4 {base : Nat} {e : TypeId} {size : Nat} {oa : Option Addr} {n cap : Nat} {xs : List Value} (h : w.ownsRow base e size (.slice oa n cap) n xs) (hB : Blk4 w hb a b c d) (hne : e ≠ 32) : blk oa ≠ some hb := by
  intro hk
  rcases h.2 with ⟨h1, _⟩ | ⟨g, _, cur, h1, _, hh, _⟩
  · cases h1; cases hk
  · cases h1
    cases hk
    unfold Blk4 at hB
    rw [hh] at hB
    simp at hB
    exact hne hB.2
end

/-- A hello that the call has made: each part is a row of its own. -/
structure HOwn (base : Nat) (w : World) (hb : Nat) (h : HV) : Prop where
  ge : base ≤ hb
  blk : Blk4 w hb (.slice h.oR 32 h.cR) (.slice h.oS h.mS h.cS) (.slice h.oU h.mU h.cU) (.slice h.oE h.mE h.cE)
  r : w.ownsRow base 5 1 (.slice h.oR 32 h.cR) 32 (cu8 h.R)
  s : w.ownsRow base 5 1 (.slice h.oS h.mS h.cS) h.mS (cu8 h.S)
  u : w.ownsRow base 34 1 (.slice h.oU h.mU h.cU) h.mU (cu16 h.U)
  e : w.ownsRow base 36 2 (.slice h.oE h.mE h.cE) h.mE (ecells h.es)
  d : ∀ x ∈ h.es, w.ownsRow base 5 1 (.slice x.ob x.d.length x.c) x.d.length (cu8 x.d)
  f : ∀ x ∈ h.es, 0 ≤ x.ty ∧ x.ty < 65536
theorem HOwn.hello {base : Nat} {w : World} {hb : Nat} {h : HV} (H : HOwn base w hb h) : HelloAt w hb h :=
  ⟨H.blk.cell0, H.blk.cell1, H.blk.cell2, H.blk.cell3, src_of_owns H.r, src_of_owns H.s, src_of_owns H.u, ⟨src_of_owns H.e, fun x hx => src_of_owns (H.d x hx), H.f⟩⟩
theorem HOwn.grew {base : Nat} {w w' : World} {hb : Nat} {h : HV} {o2 : Option Addr} (H : HOwn base w hb h) (hg : Grew w w' none o2) : HOwn base w' hb h :=
  ⟨H.ge, H.blk.grew hg (by simp [Go.Proofs.YbulkjucFmt.blk]), owns_kept H.r hg (by simp [Go.Proofs.YbulkjucFmt.blk]), owns_kept H.s hg (by simp [Go.Proofs.YbulkjucFmt.blk]), owns_kept H.u hg (by simp [Go.Proofs.YbulkjucFmt.blk]), owns_kept H.e hg (by simp [Go.Proofs.YbulkjucFmt.blk]), fun x hx => owns_kept (H.d x hx) hg (by simp [Go.Proofs.YbulkjucFmt.blk]), H.f⟩
/-- One extension more. -/
def HV.push (h : HV) (oE : Option Addr) (cE : Nat) (y : EX) : HV := { h with oE := oE, mE := h.mE + 1, cE := cE, es := h.es ++ [y] }
theorem HOwn.push {base : Nat} {w w' : World} {hb : Nat} {h : HV} {o2 : Option Addr} {c2 : Nat} {y : EX} (H : HOwn base w hb h) (hy : w.ownsRow base 5 1 (.slice y.ob y.d.length y.c) y.d.length (cu8 y.d)) (hf : 0 ≤ y.ty ∧ y.ty < 65536)
    (hg : Grew w w' h.oE o2) (ho : w'.ownsRow base 36 2 (.slice o2 (h.mE + 1) c2) (h.mE + 1) (ecells (h.es ++ [y]))) : HOwn base (w'.setCell ⟨hb, 3, none⟩ (.slice o2 (h.mE + 1) c2)) hb (h.push o2 c2 y) := by
  have hB : Blk4 w' hb _ _ _ _ := H.blk.grew hg (owns_ne4 H.e H.blk (by decide))
  have k5 : ∀ {oa : Option Addr} {n cap : Nat} {xs : List Value}, w.ownsRow base 5 1 (.slice oa n cap) n xs → (w'.setCell ⟨hb, 3, none⟩ (.slice o2 (h.mE + 1) c2)).ownsRow base 5 1 (.slice oa n cap) n xs := fun h5 => by
    have h6 := owns_kept h5 hg (owns_ne h5 H.e (by decide))
    exact owns_kept h6 (grew_set _ _ _ _) fun k hk e => owns_ne4 h6 hB (by decide) (by rw [hk, ← e]; rfl)
  have k34 : ∀ {oa : Option Addr} {n cap : Nat} {xs : List Value}, w.ownsRow base 34 1 (.slice oa n cap) n xs → (w'.setCell ⟨hb, 3, none⟩ (.slice o2 (h.mE + 1) c2)).ownsRow base 34 1 (.slice oa n cap) n xs := fun h5 => by
    have h6 := owns_kept h5 hg (owns_ne h5 H.e (by decide))
    exact owns_kept h6 (grew_set _ _ _ _) fun k hk e => owns_ne4 h6 hB (by decide) (by rw [hk, ← e]; rfl)
  refine ⟨H.ge, hB.set3 _, k5 H.r, k5 H.s, k34 H.u, owns_kept ho (grew_set _ _ _ _) fun k hk e => owns_ne4 ho hB (by decide) (hk.trans e.symm), ?_, ?_⟩
  · intro x hx
    rcases List.mem_append.1 hx with hx | hx
    · exact k5 (H.d x hx)
    · rw [List.mem_singleton.1 hx]; exact k5 hy
  · intro x hx
    rcases List.mem_append.1 hx with hx | hx
    · exact H.f x hx
    · rw [List.mem_singleton.1 hx]; exact hf
end Go.Proofs.YbulkjucFmt

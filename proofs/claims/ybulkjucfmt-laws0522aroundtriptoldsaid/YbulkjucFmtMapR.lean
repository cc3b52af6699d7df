import Derived.Test.YbulkjucFmtU16R
import Derived.Maps.OwnOps
import Derived.Maps.OwnSet
namespace Go.Proofs.YbulkjucFmt
open Go.RowKit Go.Maps

theorem law34 : Keyed Ybaf.prog 34 := int_keyed Ybaf.underlying34
theorem zero4 (w : World) : (zeroValue 4).run Ybaf.prog w = .ok (.bool false) w := by kernel_rfl

theorem plainElem_bool_inv {H : Type} {v : Value} {z : DataW H × List MemPlace} (h : plainElem Ybaf.prog 4 v = some z) : ∃ x, v = .bool x ∧ z = (.lit (.bool x), []) := by
  unfold plainElem at h
  rw [Ybaf.underlying4] at h
  cases v <;> simp at h
  exact ⟨_, rfl, h.symm⟩

/-- A set of types that the call keeps: what is not on the list is not in it. -/
def Seen (w : World) (mp k : Nat) (ts : List Int) : Prop :=
  ∃ D : DataW Unit, w.ownsMap Ybaf.prog 34 (plainElem Ybaf.prog 4) mp k D ∧ ∀ t, t ∉ ts → D.atKey (.int .u16 t) (.lit (.bool false)) = .lit (.bool false)
theorem Seen.made (w : World) : Seen (w.alloc (.map #[] 0)) w.heap.size 0 [] := ⟨.map [], World.ownsMap_made _ _ _ _, fun _ _ => rfl⟩
theorem Seen.lt {w : World} {mp k : Nat} {ts : List Int} (h : Seen w mp k ts) : mp < w.heap.size := by
  obtain ⟨D, h, _⟩ := h
  exact h.lt
theorem Seen.grew {w w' : World} {mp k : Nat} {ts : List Int} {o1 o2 : Option Addr} (h : Seen w mp k ts) (hg : Grew w w' o1 o2) (hne : blk o1 ≠ some mp) : Seen w' mp k ts := by
  obtain ⟨D, h, hD⟩ := h
  exact ⟨D, h.kept hg.grown (fun e => hne e.symm), hD⟩

theorem look_new {w : World} {ops : Array Oper} {rest : List Oper} {o : Oper} {a : Act} {Q : Exit → Act → World → Prop} (hg : o.guard = none) (m x : Operand) (hop : o.op = Op.lookup 74 m x false)
    (mp k : Nat) (ts : List Int) (hm : a.eval m = .map (some mp)) (hs : Seen w mp k ts) (t : Int) (hx : a.eval x = .int .u16 t) (hw : (Lit.int .u16 t).wf = true) (hn : t ∉ ts)
    (h : wpList Ybaf.prog ops Q rest (a.put o.dst (.bool false)) w) : wpList Ybaf.prog ops Q (o :: rest) a w := by
  obtain ⟨D, hown, hD⟩ := hs
  refine wpList_plain hg fun K' hK' => ?_
  obtain ⟨v, ps, hrun, hv⟩ := hown.lookup law34 Ybaf.underlying74 (zero4 w) (plainElem_bool Ybaf.underlying4 false) (keyOf_int_mk Ybaf.underlying34 hw)
  rw [hD t hn] at hv
  obtain ⟨b, rfl, hb⟩ := plainElem_bool_inv hv
  simp only [Prod.mk.injEq, DataW.lit.injEq, Lit.bool.injEq] at hb
  obtain ⟨rfl, _⟩ := hb
  unfold Oper.wp
  simp [execOp, hop, hm, hx, hrun, Result.andThen]
  exact hK' _ _ h

theorem store_new {w : World} {ops : Array Oper} {rest : List Oper} {o : Oper} {a : Act} {Q : Exit → Act → World → Prop} (hg : o.guard = none) (m x v : Operand) (hop : o.op = Op.mapUpdate 74 m x v)
    (mp k : Nat) (ts : List Int) (hm : a.eval m = .map (some mp)) (hs : Seen w mp k ts) (hk : k < maxLen) (t : Int) (hx : a.eval x = .int .u16 t) (hw : (Lit.int .u16 t).wf = true) (hv : a.eval v = .bool true)
    (h : ∀ w', Seen w' mp (k + 1) (ts ++ [t]) → w.grownBy w' (some mp) → wpList Ybaf.prog ops Q rest (a.put o.dst undef) w') : wpList Ybaf.prog ops Q (o :: rest) a w := by
  obtain ⟨D, hown, hD⟩ := hs
  refine wpList_mapUpdate_own w hg m x v 74 hop 34 4 law34 Ybaf.underlying74 _ mp k D hm hown hk _ _ _ hx hv (keyOf_int_mk Ybaf.underlying34 hw) _ [] (plainElem_bool Ybaf.underlying4 true) ?_
  intro w' h1 h2
  refine h w' ⟨_, h1, fun u hu => ?_⟩ h2
  rw [List.mem_append, List.mem_singleton, not_or] at hu
  rw [atKey_put_other (by simp only [ne_eq, Lit.int.injEq, true_and]; exact hu.2)]
  exact hD u hu.1
end Go.Proofs.YbulkjucFmt

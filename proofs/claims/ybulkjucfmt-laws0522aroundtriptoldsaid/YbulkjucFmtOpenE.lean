import Derived.Test.YbulkjucFmtOpen
namespace Go.Proofs.YbulkjucFmt
open Go.ChangeShapes Go.WideShapes Go.ChangeAt Go.RowKit

theorem cells34 : Ybaf.prog.cellsOf 34 = 1 := by kernel_rfl
theorem cells23 : Ybaf.prog.cellsOf 23 = 1 := by kernel_rfl
theorem cells43 : Ybaf.prog.cellsOf 43 = 2 := by kernel_rfl
theorem cells5 : Ybaf.prog.cellsOf 5 = 1 := by kernel_rfl
theorem cells22 : Ybaf.prog.cellsOf 22 = 32 := by kernel_rfl

section
variable {H : Type} {enc : TypeId × Value → H} {W : World}

theorem slice_read {sp : Nat → Bool} {held : Bool} {fuel : Nat} {c : Value} {y : DataW H × List MemPlace} (h : DataW.trod enc Ybaf.prog W 0 sp held fuel 23 [c] = some y) : ∃ a len cap, c = .slice a len cap := by
  rcases DataW.trod_slice Ybaf.underlying23 h with ⟨h0, _⟩ | ⟨a, len, cap, _, _, _, _, h0, _⟩
  · simp at h0; exact ⟨none, 0, 0, h0⟩
  · simp at h0; exact ⟨some a, len, cap, h0⟩

theorem ext_read {sp : Nat → Bool} {held : Bool} {n b o : Nat} {y : DataW H × List MemPlace} (h : (W.cells? 0 ⟨b, o, none⟩ 2).bind (DataW.trod enc Ybaf.prog W 0 sp held n 43) = some y) :
    ∃ x : EX, W.cell? ⟨b, o, none⟩ = some (.int .u16 x.ty) ∧ W.cell? ⟨b, o + 1, none⟩ = some (.slice x.ob x.d.length x.c) ∧ ASrc W x.ob x.d.length 1 x.c (cu8 x.d) ∧ 0 ≤ x.ty ∧ x.ty < 65536 := by
  obtain ⟨cs, hcs, hy⟩ := Option.bind_eq_some_iff.1 h
  simp only [World.cells?, Nat.zero_le, if_true, show List.range 2 = [0, 1] from rfl, List.mapM_cons, List.mapM_nil, Option.bind_eq_bind, Option.pure_def, Option.bind_eq_some_iff, Option.some.injEq] at hcs
  obtain ⟨c0, h0, l1, ⟨c1, h1, l2, rfl, rfl⟩, rfl⟩ := hcs
  rw [add_plain] at h0 h1
  obtain ⟨y0, y1, m, _, _, hy0, hy1⟩ := trod_struct2 Ybaf.underlying43 hy
  simp only [cells34, cells23, List.drop_zero, List.take_succ_cons, List.take_zero, List.drop_succ_cons] at hy0 hy1
  obtain ⟨ty, e0, _, w0⟩ := DataW.trod_int Ybaf.underlying34 hy0
  simp at e0
  obtain ⟨a, len, cap, rfl⟩ := slice_read hy1
  obtain ⟨zs, hl, _, _, _, hz⟩ := ints_read Ybaf.underlying23 Ybaf.underlying5 cells5 hy1
  have hb := bounds_u16 w0
  refine ⟨⟨ty, a, cap, zs⟩, by rw [← e0]; simpa using h0, by simpa [hl] using h1, ?_, by simpa using hb.1, by have := hb.2; simp; omega⟩
  simp only
  rw [hl]
  exact asrc_any hl hz

theorem exts_read {sp : Nat → Bool} {held : Bool} {fuel : Nat} {a : Option Addr} {len cap : Nat} {y : DataW H × List MemPlace} (h : DataW.trod enc Ybaf.prog W 0 sp held fuel 25 [.slice a len cap] = some y) (hp : ∀ ad, a = some ad → ∃ b off, ad = ⟨b, off, none⟩ ∧ b < W.heap.size) :
    ∃ es, AESrc W a len cap es := by
  rcases DataW.trod_slice Ybaf.underlying25 h with ⟨h0, _⟩ | ⟨ad, l, c, elems, rest, n, _, h0, _, _, hl, hm, hlen, hel, _, _⟩
  · simp at h0
    obtain ⟨rfl, rfl, rfl⟩ := h0
    exact ⟨[], Src.nil _ _, by simp, by simp⟩
  · simp at h0
    obtain ⟨rfl, rfl, rfl⟩ := h0
    obtain ⟨b, off, rfl, hb⟩ := hp ad rfl
    obtain ⟨es, hes, hP⟩ := list_of (P := fun i x => W.cell? ⟨b, off + i * 2, none⟩ = some (.int .u16 x.ty) ∧ W.cell? ⟨b, off + i * 2 + 1, none⟩ = some (.slice x.ob x.d.length x.c) ∧ ASrc W x.ob x.d.length 1 x.c (cu8 x.d) ∧ 0 ≤ x.ty ∧ x.ty < 65536) len (fun i hi => by
      have h1 := hel i hi
      rw [cells43, add_plain, List.getElem?_eq_getElem (by omega)] at h1
      exact ext_read h1)
    have hmem : ∀ x ∈ es, ∃ i, es[i]? = some x := fun x hx => List.getElem?_of_mem hx
    refine ⟨es, ⟨by rw [ecells_length, hes], Or.inr ⟨b, off, rfl, hb, fun j u hj => ?_⟩⟩, fun x hx => ?_, fun x hx => ?_⟩
    · obtain ⟨i, x, hx, ⟨rfl, rfl⟩ | ⟨rfl, rfl⟩⟩ := ecells_inv es j u hj
      · exact (hP i x hx).1
      · rw [← Nat.add_assoc]; exact (hP i x hx).2.1
    · obtain ⟨i, hi⟩ := hmem x hx
      exact (hP i x hi).2.2.1
    · obtain ⟨i, hi⟩ := hmem x hx
      exact (hP i x hi).2.2.2

theorem array_read {sp : Nat → Bool} {held : Bool} {fuel : Nat} {cs : List Value} {y : DataW H × List MemPlace} (h : DataW.trod enc Ybaf.prog W 0 sp held fuel 22 cs = some y) : ∃ R : List Int, R.length = 32 ∧ cs = cu8 R := by
  obtain ⟨xs, m, _, _, hlen, hl, hel⟩ := DataW.trod_array Ybaf.underlying22 h
  rw [cells22] at hlen
  refine ints_of cs 32 hlen fun i hi => ?_
  have h1 := hel i hi
  rw [cells5, Nat.mul_one, List.getElem?_eq_getElem (by omega)] at h1
  obtain ⟨z, hz, _⟩ := DataW.trod_int Ybaf.underlying5 h1
  refine ⟨z, ?_⟩
  have := congrArg (·[0]?) hz
  simpa [List.getElem?_take, List.getElem?_drop] using this
end
end Go.Proofs.YbulkjucFmt

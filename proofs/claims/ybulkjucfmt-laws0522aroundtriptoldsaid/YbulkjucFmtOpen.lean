/-
  THE ARGUMENTS, OPENED: an array of bytes, slices of numbers, a slice of extensions.
-/
import Derived.Test.YbulkjucFmtExts
import Derived.ProofKit
import Derived.OpenShut
namespace Go.Proofs.YbulkjucFmt
open Go.ChangeShapes Go.WideShapes Go.ChangeAt Go.RowKit

def intVal : Value → Int
  | .int _ z => z
  | _ => 0
theorem ints_of (l : List Value) (n : Nat) (hl : l.length = n) (h : ∀ i, i < n → ∃ z, l[i]? = some (.int .u8 z)) : ∃ R : List Int, R.length = n ∧ l = cu8 R := by
  refine ⟨l.map intVal, by simp [hl], ?_⟩
  refine List.ext_getElem? fun i => ?_
  by_cases hi : i < n
  · obtain ⟨z, hz⟩ := h i hi
    simp [cu8, hz, intVal]
  · rw [List.getElem?_eq_none (by omega), List.getElem?_eq_none (by simp [cu8]; omega)]

theorem list_of {P : Nat → EX → Prop} (n : Nat) (h : ∀ i, i < n → ∃ x, P i x) : ∃ l : List EX, l.length = n ∧ ∀ i x, l[i]? = some x → P i x := by
  induction n with
  | zero => exact ⟨[], rfl, fun i x hx => by simp at hx⟩
  | succ n ih =>
    obtain ⟨l, hl, hp⟩ := ih fun i hi => h i (by omega)
    obtain ⟨x, hx⟩ := h n (by omega)
    refine ⟨l ++ [x], by simp [hl], fun i y hy => ?_⟩
    by_cases hi : i < n
    · rw [List.getElem?_append_left (by omega)] at hy; exact hp i y hy
    · rw [List.getElem?_append_right (by omega)] at hy
      have : i - l.length = 0 := by
        rcases Nat.eq_zero_or_pos (i - l.length) with h | h
        · exact h
        · rw [List.getElem?_eq_none (by simp; omega)] at hy; cases hy
      rw [this] at hy
      simp at hy
      have hin : i = n := by omega
      subst hy hin
      exact hx

theorem ecells_inv (es : List EX) (j : Nat) (u : Value) (h : (ecells es)[j]? = some u) : ∃ i x, es[i]? = some x ∧ ((j = i * 2 ∧ u = .int .u16 x.ty) ∨ (j = i * 2 + 1 ∧ u = .slice x.ob x.d.length x.c)) := by
  have hj : j < (ecells es).length := by
    rcases Nat.lt_or_ge j (ecells es).length with h1 | h1
    · exact h1
    · rw [List.getElem?_eq_none h1] at h; cases h
  rw [ecells_length] at hj
  have hx : es[j / 2]? = some es[j / 2] := List.getElem?_eq_getElem (by omega)
  obtain ⟨e1, e2⟩ := ecells_at es (j / 2) _ hx
  refine ⟨j / 2, es[j / 2], hx, ?_⟩
  rcases Nat.mod_two_eq_zero_or_one j with h2 | h2
  · have hj2 : j / 2 * 2 = j := by omega
    rw [hj2, h] at e1
    exact Or.inl ⟨hj2.symm, Option.some.inj e1⟩
  · have hj2 : j / 2 * 2 + 1 = j := by omega
    rw [hj2, h] at e2
    exact Or.inr ⟨hj2.symm, Option.some.inj e2⟩

theorem addr_of_okWide {W : World} {base : Nat} {t e : TypeId} {a : Addr} {len cap : Nat} (ht : Ybaf.prog.underlying t = some (.slice e)) (h : Value.okWide Ybaf.prog W .any base t (.slice (some a) len cap)) : ∃ b off, a = ⟨b, off, none⟩ ∧ b < W.heap.size := by
  simp only [Value.okWide, ht, Cell.okWide, Cell.ok, World.has] at h
  obtain ⟨_, _, _, hs, _, _, hsh, _⟩ := h
  obtain ⟨b, off, sp⟩ := a
  simp only at hs
  subst hs
  refine ⟨b, off, rfl, ?_⟩
  simp only [World.shape?] at hsh
  split at hsh
  · rename_i hh
    exact (Array.getElem?_eq_some_iff.1 hh).1
  · cases hsh

section
variable {H : Type} {enc : TypeId × Value → H} {W : World} {base : Nat}

/-- A slice of integers, off its reading: 'ASrc'; and what its address is. -/
theorem ints_read {sp : Nat → Bool} {held : Bool} {fuel : Nat} {t e : TypeId} {k : IntKind} {a : Option Addr} {len cap : Nat} {y : DataW H × List MemPlace} (ht : Ybaf.prog.underlying t = some (.slice e)) (he : Ybaf.prog.underlying e = some (.int k)) (hc : Ybaf.prog.cellsOf e = 1)
    (h : DataW.trod enc Ybaf.prog W 0 sp held fuel t [.slice a len cap] = some y) : ∃ zs : List Int, zs.length = len ∧ len ≤ cap ∧ len ≤ maxLen ∧ (∀ z ∈ zs, (Lit.int k z).wf = true) ∧ ((a = none ∧ len = 0 ∧ cap = 0) ∨ ∃ ad, a = some ad ∧ ∀ i z, zs[i]? = some z → W.cell? (ad.add i) = some (.int k z)) := by
  rcases open_ints ht he hc h with ⟨hcs, _⟩ | ⟨ad, l, c, zs, hcs, _, hl, hm, hz, _, hcell, hwz⟩
  · simp at hcs
    obtain ⟨rfl, rfl, rfl⟩ := hcs
    exact ⟨[], rfl, Nat.le_refl _, Nat.zero_le _, by simp, Or.inl ⟨rfl, rfl, rfl⟩⟩
  · simp at hcs
    obtain ⟨rfl, rfl, rfl⟩ := hcs
    have hlz : len ≤ zs.length := by rw [hz]; split <;> omega
    refine ⟨zs.take len, by simp; omega, hl, by omega, fun z hz => hwz z (List.mem_of_mem_take hz), Or.inr ⟨ad, rfl, fun i z hi => ?_⟩⟩
    rw [List.getElem?_take] at hi
    split at hi
    · have hi2 : i < zs.length := (List.getElem?_eq_some_iff.1 hi).1
      rw [hcell i hi2]
      simp [List.getD, hi]
    · cases hi

/-- The cells' way of lying, from an address that is plain. -/
theorem src_plain {k : IntKind} {a : Option Addr} {len cap : Nat} {zs : List Int} (hl : zs.length = len) (h : (a = none ∧ len = 0 ∧ cap = 0) ∨ ∃ ad, a = some ad ∧ ∀ i z, zs[i]? = some z → W.cell? (ad.add i) = some (.int k z)) (hp : ∀ ad, a = some ad → ∃ b off, ad = ⟨b, off, none⟩ ∧ b < W.heap.size) :
    Src W a len 1 cap (zs.map (Value.int k)) := by
  refine ⟨by simp [hl], ?_⟩
  rcases h with h | ⟨ad, rfl, h⟩
  · exact Or.inl h
  · obtain ⟨b, off, rfl, hb⟩ := hp ad rfl
    refine Or.inr ⟨b, off, rfl, hb, fun j u hj => ?_⟩
    simp only [List.getElem?_map, Option.map_eq_some_iff] at hj
    obtain ⟨z, hz, rfl⟩ := hj
    rw [← add_plain]
    exact h j z hz
theorem cell_plain {ad : Addr} {v : Value} (h : W.cell? ad = some v) : ad.spot = none := by
  simp only [World.cell?] at h
  split at h
  · split at h
    · cases h
    · rename_i hs
      simpa using hs
  · cases h
theorem asrc_any {a : Option Addr} {len cap : Nat} {zs : List Int} (hl : zs.length = len) (h : (a = none ∧ len = 0 ∧ cap = 0) ∨ ∃ ad, a = some ad ∧ ∀ i z, zs[i]? = some z → W.cell? (ad.add i) = some (.int .u8 z)) : ASrc W a len 1 cap (cu8 zs) := by
  by_cases h0 : len = 0
  · rcases h with h | ⟨ad, rfl, h⟩
    · exact Or.inl (src_plain hl (Or.inl h) (fun ad e => by rw [h.1] at e; cases e))
    · have hz : zs = [] := List.eq_nil_of_length_eq_zero (by omega)
      exact Or.inr ⟨h0, by rw [hz]; rfl, ad, rfl⟩
  · refine Or.inl (src_plain hl h fun ad e => ?_)
    rcases h with h | ⟨ad', rfl, h⟩
    · omega
    · cases e
      have hz : zs[0]? = some zs[0] := List.getElem?_eq_getElem (by omega)
      have hc := h 0 _ hz
      have hb := World.block_lt_of_cell? W _ hc
      have hs := cell_plain hc
      obtain ⟨b, off, s⟩ := ad
      cases s with
      | none => exact ⟨b, off, rfl, by simpa [Addr.add] using hb⟩
      | some s => simp [Addr.add] at hs
end
end Go.Proofs.YbulkjucFmt

import Derived.Test.YbulkjucFmtOwn
namespace Go.Proofs.YbulkjucFmt
open Go.RowKit

/-- A reader's cell. -/
def Box (w : World) (rb : Nat) (v : Value) : Prop := w.heap[rb]? = some (.cells #[v] 50 (0, 0))
section
variable {w w' : World} {rb : Nat} {v : Value} {o1 o2 : Option Addr}
theorem Box.cell (h : Box w rb v) : w.cell? ⟨rb, 0, none⟩ = some v := by rw [cell_of_row _ _ _ _ _ _ h]; rfl
theorem Box.frozen (h : Box w rb v) : w.frozen? ⟨rb, 0, none⟩ = false := by
  unfold Box at h
  simp [World.frozen?, h]
theorem Box.lt (h : Box w rb v) : rb < w.heap.size := (Array.getElem?_eq_some_iff.1 h).1
theorem Box.set (h : Box w rb v) (u : Value) : Box (w.setCell ⟨rb, 0, none⟩ u) rb u := heap_setCell_same w rb 0 _ _ u h
theorem Box.grew (h : Box w rb v) (hg : Grew w w' o1 o2) (hne : blk o1 ≠ some rb) : Box w' rb v := by
  unfold Box
  rw [hg.grown.block rb h.lt fun e => hne e.symm]
  exact h
end

/-- A reader whose rest, in the block mb, is these bytes. -/
def RdAt (w : World) (rb mb m : Nat) (xs : List Int) : Prop :=
  ∃ off c, Box w rb (.slice (some ⟨mb, off, none⟩) m c) ∧ m ≤ c ∧ c ≤ maxLen ∧ Src w (some ⟨mb, off, none⟩) m 1 c (cu8 xs) ∧ rb ≠ mb
theorem Src.front {w : World} {mb off m c c2 : Nat} {ys zs : List Int} (h : Src w (some ⟨mb, off, none⟩) m 1 c (cu8 (ys ++ zs))) : Src w (some ⟨mb, off, none⟩) ys.length 1 c2 (cu8 ys) := by
  refine ⟨by simp [cu8], ?_⟩
  rcases h.2 with ⟨h1, _⟩ | ⟨b, o, h1, hb, hc⟩
  · cases h1
  · refine Or.inr ⟨b, o, h1, hb, fun j u hj => hc j u ?_⟩
    rw [cu8_append, List.getElem?_append_left]
    · exact hj
    · rcases Nat.lt_or_ge j (cu8 ys).length with h2 | h2
      · exact h2
      · rw [List.getElem?_eq_none h2] at hj; cases hj
theorem Src.back {w : World} {mb off off2 m c c2 : Nat} {ys zs : List Int} (h : Src w (some ⟨mb, off, none⟩) m 1 c (cu8 (ys ++ zs))) (ho : zs ≠ [] → off2 = off + ys.length) : Src w (some ⟨mb, off2, none⟩) zs.length 1 c2 (cu8 zs) := by
  refine ⟨by simp [cu8], ?_⟩
  rcases h.2 with ⟨h1, _⟩ | ⟨b, o, h1, hb, hc⟩
  · cases h1
  · cases h1
    refine Or.inr ⟨mb, off2, rfl, hb, fun j u hj => ?_⟩
    have hz : zs ≠ [] := fun e => by rw [e] at hj; simp [cu8] at hj
    rw [ho hz, Nat.add_assoc]
    refine hc _ u ?_
    rw [cu8_append, List.getElem?_append_right (by rw [cu8_length]; omega), cu8_length, Nat.add_sub_cancel_left]
    exact hj

theorem rd_next {w : World} {rb mb off off2 m c c2 : Nat} {ys zs : List Int} (hB : Box w rb (.slice (some ⟨mb, off, none⟩) m c)) (hs : Src w (some ⟨mb, off, none⟩) m 1 c (cu8 (ys ++ zs))) (hne : rb ≠ mb) (ho : zs ≠ [] → off2 = off + ys.length) (hm : m - ys.length = zs.length) (h1 : m - ys.length ≤ c2) (h2 : c2 ≤ maxLen) :
    Src (w.setCell ⟨rb, 0, none⟩ (.slice (some ⟨mb, off2, none⟩) (m - ys.length) c2)) (some ⟨mb, off, none⟩) ys.length 1 ys.length (cu8 ys) ∧ RdAt (w.setCell ⟨rb, 0, none⟩ (.slice (some ⟨mb, off2, none⟩) (m - ys.length) c2)) rb mb (m - ys.length) zs := by
  have hf : ∀ k, blk (some (⟨mb, off, none⟩ : Addr)) = some k → blk (some (⟨rb, 0, none⟩ : Addr)) ≠ some k := fun k hk e => hne (by
    have h1 : mb = k := Option.some.inj hk
    have h2 : rb = k := Option.some.inj e
    omega)
  have hs2 := hs.grew (grew_set w rb 0 (.slice (some ⟨mb, off2, none⟩) (m - ys.length) c2)) hf
  refine ⟨hs2.front, off2, c2, hB.set _, h1, h2, ?_, hne⟩
  have h3 := hs2.back (c2 := c2) ho
  rw [← hm] at h3
  exact h3

set_option maxHeartbeats 800000 in
theorem bytes_any (rb mb m n : Nat) (ys zs : List Int) (w : World) (hR : RdAt w rb mb m (ys ++ zs)) (hn : ys.length = n) :
    Calls Ybaf.prog 27 #[.pointer (some ⟨rb, 0, none⟩), .int .i64 (n : Int)] w fun e w' => ∃ off, e = .returned (.tuple #[.slice (some ⟨mb, off, none⟩) n n, .nilIface]) ∧ Src w' (some ⟨mb, off, none⟩) n 1 n (cu8 ys) ∧ RdAt w' rb mb (m - n) zs ∧ Grew w w' (some ⟨rb, 0, none⟩) (some ⟨rb, 0, none⟩) := by
  obtain ⟨off, c, hB, hmc, hcm, hs, hne⟩ := hR
  have hl := hs.1
  rw [cu8_length, List.length_append] at hl
  have h1 := hB.cell
  have h2 := hB.frozen
  have hcm' : c ≤ 2 ^ 63 - 1 := hcm
  have hnm : n ≤ m := by omega
  have HB : Hid (Box w rb (.slice (some ⟨mb, off, none⟩) m c)) := hB
  have HS : Hid (Src w (some ⟨mb, off, none⟩) m 1 c (cu8 (ys ++ zs))) := hs
  have HN : Hid (ys.length = n) := hn
  have HZ : Hid (m - n = zs.length) := by show _ = _; omega
  have HC : Hid (c ≤ maxLen) := hcm
  clear hB hs hn hl hcm
  go_enter Ybaf.func27, Ybaf.ntmps27
  go_wp2_with fail
  · rename_i hcn
    go_ret2
    have e := HN.out
    have ez := HZ.out
    subst e
    have hz0 : zs.length = 0 := by omega
    have := rd_next (off2 := off) (c2 := 0) HB.out HS.out hne (fun hz => absurd (List.eq_nil_of_length_eq_zero hz0) hz) ez (by omega) (by unfold maxLen; omega)
    exact ⟨off, rfl, this.1, this.2, grew_set _ _ _ _⟩
  · go_ret2
    have e := HN.out
    have ez := HZ.out
    subst e
    have hc := HC.out
    have := rd_next (off2 := off + ys.length) (c2 := c - ys.length) HB.out HS.out hne (fun _ => rfl) ez (by omega) (by omega)
    exact ⟨off, rfl, this.1, this.2, grew_set _ _ _ _⟩
end Go.Proofs.YbulkjucFmt

import Derived.Test.YbulkjucFmtBuild
namespace Go.Proofs.YbulkjucFmt

/-- One step of the thinning: an extension is kept if none that is kept has its type. -/
def dstep (acc : List EX) (x : EX) : List EX := if (acc.map EX.ty).contains x.ty then acc else acc ++ [x]
/-- The extensions that are kept. -/
def ded (es : List EX) : List EX := es.foldl dstep []
theorem ded_snoc (es : List EX) (x : EX) : ded (es ++ (some x).toList) = dstep (ded es) x := by simp [ded]
theorem ded_mem (es : List EX) : ∀ x ∈ ded es, x ∈ es := by
  suffices h : ∀ (l acc : List EX), ∀ x ∈ l.foldl dstep acc, x ∈ acc ∨ x ∈ l by
    intro x hx
    rcases h es [] x hx with h | h
    · cases h
    · exact h
  intro l
  induction l with
  | nil => intro acc x hx; exact Or.inl hx
  | cons y l ih =>
    intro acc x hx
    rcases ih _ x hx with h | h
    · unfold dstep at h
      split at h
      · exact Or.inl h
      · rcases List.mem_append.1 h with h | h
        · exact Or.inl h
        · rw [List.mem_singleton.1 h]; exact Or.inr (by simp)
    · exact Or.inr (by simp [h])
theorem ded_nodup (es : List EX) : ((ded es).map EX.ty).Nodup := by
  suffices h : ∀ (l acc : List EX), (acc.map EX.ty).Nodup → ((l.foldl dstep acc).map EX.ty).Nodup from h es [] (by simp)
  intro l
  induction l with
  | nil => intro acc h; exact h
  | cons y l ih =>
    intro acc h
    refine ih _ ?_
    unfold dstep
    split
    · exact h
    · rename_i hc
      rw [List.map_append, List.nodup_append]
      refine ⟨h, by simp, fun a ha b hb e => hc ?_⟩
      simp at hb
      rw [List.contains_iff_mem, ← hb, ← e]
      exact ha
theorem ded_len (es : List EX) : (encE (ded es)).length ≤ (encE es).length ∧ (ded es).length ≤ es.length := by
  suffices h : ∀ (l acc : List EX), (encE (l.foldl dstep acc)).length ≤ (encE acc).length + (encE l).length ∧ (l.foldl dstep acc).length ≤ acc.length + l.length by
    have := h es []
    have e0 : (encE []).length = 0 := rfl
    simp only [List.length_nil, e0, Nat.zero_add] at this
    exact this
  intro l
  induction l with
  | nil => intro acc; simp [encE]
  | cons y l ih =>
    intro acc
    have h := ih (dstep acc y)
    have e1 : (encE (y :: l)).length = (encE [y]).length + (encE l).length := by simp [encE]; omega
    have e2 : (encE (dstep acc y)).length ≤ (encE acc).length + (encE [y]).length ∧ (dstep acc y).length ≤ acc.length + 1 := by
      unfold dstep
      split
      · exact ⟨by omega, by omega⟩
      · exact ⟨by simp [encE], by simp⟩
    simp only [List.foldl_cons, List.length_cons]
    omega
end Go.Proofs.YbulkjucFmt

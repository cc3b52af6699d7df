/-
  LawS0523BSplit: the row, proved.
-/
import Derived.Test.YbulkjuqRows
import Derived.Test.YbulkjuqSplit
import Derived.WalkKit
import Derived.ProofKit
import Derived.OpenShut
import Derived.ShutString
import Derived.ChangeOld
import Derived.Below
import Derived.SliceStrings
import Derived.SizedLaws
namespace Go.Proofs.Ybulkjuq.lawS0523BSplit
open Go.ChangeShapes Go.WideShapes Go.ChangeAt Go.RowKit

theorem own : ownKnob Yba.prog.godebug = none := by kernel_rfl
theorem laidOut : laidOutB Yba.prog = true := by kernel_rfl
theorem reach_eq : reachBytes = 140737488351232 := rfl

theorem weightsAll_mem {H : Type} {P : Program} {e : TypeId} : ∀ {l : List (DataW H)} {d : DataW H}, d ∈ l → ∀ n ∈ d.weights P e, n ∈ DataW.weightsAll P e l
  | d' :: r, d, hd, n, hn => by
    simp only [DataW.weightsAll, List.mem_append]
    rcases List.mem_cons.1 hd with rfl | h
    · exact Or.inl hn
    · exact Or.inr (weightsAll_mem h n hn)
/-- The form's own reach, of a string inside a slice of strings. -/
theorem sized_elem {H : Type} {P : Program} {ts : List TypeId} {ds : List (DataW H)} (h : (DataW.weightsEach P ts ds).all (· ≤ reachBytes) = true) {j : Nat} {t e : TypeId} {elems spare : List (DataW H)} {bytes : List UInt8}
    (ht : ts[j]? = some t) (hd : ds[j]? = some (.slice elems spare)) (hu : P.underlying t = some (.slice e)) (hx : DataW.lit (.string bytes) ∈ elems) : bytes.length ≤ reachBytes := by
  refine of_decide_eq_true (List.all_eq_true.1 h _ (DataW.weights_mem_each ht hd _ ?_))
  simp only [DataW.weights, hu, List.mem_cons, List.mem_append]
  exact Or.inr (Or.inl (weightsAll_mem hx _ (by simp [DataW.weights])))

/-- A slice's own address, as the form holds it: plain, and inside the memory. -/
theorem addr_of_okWide {W : World} {base : Nat} {t e : TypeId} {a : Addr} {len cap : Nat} (ht : Yba.prog.underlying t = some (.slice e)) (h : Value.okWide Yba.prog W .any base t (.slice (some a) len cap)) : ∃ b off, a = ⟨b, off, none⟩ ∧ b < W.heap.size := by
  simp only [Value.okWide, ht, Cell.okWide, Cell.ok, World.has] at h
  obtain ⟨_, _, _, hs, _, _, hsh, _⟩ := h
  obtain ⟨b, off, sp⟩ := a
  simp only at hs
  subst hs
  refine ⟨b, off, rfl, ?_⟩
  simp only [World.shape?] at hsh
  split at hsh
  · rename_i hh
    exact (Array.getElem?_eq_some_iff.1 hh).1
  · cases hsh

/-- A slice of strings that came in, opened. -/
theorem strings_read {H : Type} {enc : TypeId × Value → H} {W : World} {a : Option Addr} {len cap fuel j : Nat} {d : DataW H} {pl : List MemPlace} {ts : List TypeId} {ds : List (DataW H)}
    (hf : DataW.trod enc Yba.prog W 0 (fun _ => true) true fuel 29 (Value.slice a len cap).cells.toList = some (d, pl)) (hsz : (DataW.weightsEach Yba.prog ts ds).all (· ≤ reachBytes) = true) (ht : ts[j]? = some 29) (hd : ds[j]? = some d) (ho : ∀ ad, a = some ad → ∃ b off, ad = ⟨b, off, none⟩ ∧ b < W.heap.size) :
    ∃ ss, SSrc W a len ss ∧ len ≤ maxLen := by
  rcases open_strings Yba.underlying29 Yba.underlying9 (by kernel_rfl) hf with ⟨hcs, _⟩ | ⟨x, l, c, ss, hcs, _, hl, hm, hz, hx, hcell, hwz⟩
  · simp [Value.cells] at hcs
    obtain ⟨rfl, rfl, rfl⟩ := hcs
    exact ⟨[], ⟨rfl, Or.inl rfl, by simp⟩, by unfold maxLen; omega⟩
  · simp [Value.cells] at hcs
    obtain ⟨rfl, rfl, rfl⟩ := hcs
    simp only [if_true] at hz
    have hd2 : d = .slice (strs (ss.take len)) (strs (ss.drop len)) := congrArg Prod.fst hx
    subst hd2
    refine ⟨ss.take len, ⟨by simp; omega, ?_, fun s hs => ?_⟩, by omega⟩
    · by_cases h0 : len = 0
      · exact Or.inl h0
      obtain ⟨b, off, rfl, hb⟩ := ho _ rfl
      have hadd : ∀ j, (⟨b, off, none⟩ : Addr).add j = ⟨b, off + j, none⟩ := fun j => by unfold Addr.add; split <;> simp_all
      refine Or.inr ⟨b, off, rfl, hb, fun k s hk => ?_⟩
      rw [List.getElem?_take] at hk
      split at hk
      · have hj : k < ss.length := (List.getElem?_eq_some_iff.1 hk).1
        have := hcell k hj
        rw [hadd] at this
        rw [this]
        simp [List.getD, hk]
      · cases hk
    · have := sized_elem hsz ht hd Yba.underlying29 (bytes := s.data.toList) (List.mem_map.2 ⟨s, hs, rfl⟩)
      rw [reach_eq] at this
      have e : s.data.toList.length = s.size := by simp
      omega

set_option maxRecDepth 100000 in
theorem lifted (os : Os) (started : os.Started) (H : Type) (enc : TypeId × Value → H) :
    ReturnsInHanded {} Yba.checked os 6 .any (Rows.lawS0523BSplitSpec.pre6 enc Yba.prog Yba.f6 Rows.lawS0523BSplitRow.domain false) (Rows.lawS0523BSplitSpec.post enc Yba.prog Yba.f6 false true false false) := by
  refine returnsInHanded_of_change_sized (C := Yba.checked) own started (by kernel_rfl) Yba.func6
    (ChangeSpec.witness6 (enc := enc) (C := Yba.checked) false ⟨#[], #[.slice none 0 0, .slice none 0 0, .int .u64 0], []⟩ 8 (by kernel_rfl) (by kernel_rfl) (by kernel_rfl) (by kernel_rfl)) ?_
  intro W base args ds gs before hval0 hW hcnd hsz0 _
  have hsz : (DataW.weightsEach Yba.prog (Yba.f6.params.toList ++ Rows.lawS0523BSplitSpec.plain.varTypes Yba.prog) (ds ++ gs)).all (· ≤ reachBytes) = true := hsz0
  have hval : ∀ (j : Nat) t v, Yba.f6.params[j]? = some t → args[j]? = some v → Value.okWide Yba.prog W .any base t v := hval0
  have hW' := hW
  obtain ⟨p, q, hA0, hV, rfl, hfz, hnd⟩ := hW
  have hA : DataW.TrodAll enc Yba.prog W 0 (fun _ => true) true Yba.f6.params.toList args.toList ds p := hA0
  rw [Yba.params6] at hA hval hsz
  obtain ⟨v0, vs0, d0, ds0, p0, q0, hargs, rfl, rfl, h0, r0⟩ := trodAll_cons hA
  obtain ⟨v1, vs1, d1, ds1, p1, q1, rfl, rfl, rfl, h1, r1⟩ := trodAll_cons r0
  obtain ⟨v2, vs2, d2, ds2, p2, q2, rfl, rfl, rfl, h2, r2⟩ := trodAll_cons r1
  obtain ⟨rfl, rfl, rfl⟩ := trodAll_nil r2
  obtain rfl : args = #[v0, v1, v2] := by cases args; simp_all
  obtain ⟨rfl, rfl⟩ := trodVars_none hV
  obtain ⟨a0, len0, cap0, rfl⟩ := okWide_slice Yba.underlying29 (hval 0 29 v0 rfl rfl)
  obtain ⟨a1, len1, cap1, rfl⟩ := okWide_slice Yba.underlying29 (hval 1 29 v1 rfl rfl)
  obtain ⟨n2, rfl, rfl, rfl, wn2⟩ := open_int Yba.underlying41 (hval 2 41 v2 rfl rfl) h2
  have k0 := h0
  have k1 := h1
  have lt0 : ∀ x ∈ p0, x.block < W.heap.size := by obtain ⟨m, hm⟩ := k0; exact DataW.trod_lt m _ _ _ hm
  have lt1 : ∀ x ∈ p1, x.block < W.heap.size := by obtain ⟨m, hm⟩ := k1; exact DataW.trod_lt m _ _ _ hm
  obtain ⟨ss, hS, _⟩ : ∃ ss, SSrc W a0 len0 ss ∧ len0 ≤ maxLen := by
    obtain ⟨fuel, hf⟩ := k0
    exact strings_read (j := 0) hf hsz rfl rfl fun ad e => by
      have := hval 0 29 _ rfl rfl
      rw [e] at this
      exact addr_of_okWide Yba.underlying29 this
  obtain ⟨us, hU, hUm⟩ : ∃ ss, SSrc W a1 len1 ss ∧ len1 ≤ maxLen := by
    obtain ⟨fuel, hf⟩ := k1
    exact strings_read (j := 1) hf hsz rfl rfl fun ad e => by
      have := hval 1 29 _ rfl rfl
      rw [e] at this
      exact addr_of_okWide Yba.underlying29 this
  have hb2 := bounds_u64 wn2
  clear hA0 hval0
  have call : Calls Yba.prog 6 #[.slice a0 len0 cap0, .slice a1 len1 cap1, .int .u64 n2] W fun e w' => e = .returned (.bool true) ∧ Below W.heap.size W w' := by
    by_cases h : 1024 < len0
    · exact split_long a0 a1 len0 cap0 len1 cap1 n2 W h
    · exact split_any a0 a1 len0 cap0 len1 cap1 ss us n2 W hS hU (by omega) hUm (by omega) (by omega)
  refine call.mono fun e W' ⟨he, bel⟩ => ?_
  subst he
  exact ⟨_, rfl, _, _, _, [], _, [], hW', trodAll_mk1 (shut_bool Yba.underlying4 _), (trodAll_cons_mk (Below.trod laidOut (by kernel_rfl) (of_decide_eq_true (by kernel_rfl)) k0 bel lt0) (trodAll_cons_mk (Below.trod laidOut (by kernel_rfl) (of_decide_eq_true (by kernel_rfl)) k1 bel lt1) (trodAll_cons_mk (shut_int Yba.underlying41 wn2) trodAll_mk0))), rfl, bel.frame _, fun h => by cases h⟩

theorem over : Rows.lawS0523BSplitRow.holds Yba.pinned (OpenSpec.ofChange Rows.lawS0523BSplitSpec) :=
  OpenClaim.holds_of_wide 6 Yba.f6 rfl rfl rfl rfl rfl rfl rfl ⟨rfl, rfl, rfl, rfl, rfl⟩ rfl rfl rfl rfl rfl (by kernel_rfl) Yba.func6 (by kernel_rfl)
    (of_decide_eq_true (by kernel_rfl)) (by unfold Func.isWrapper; first | (rw [if_pos (by decide +kernel)]; kernel_rfl) | (rw [if_neg (by decide +kernel)]; exact ⟨rfl, rfl⟩))
    (fun os started H enc _ => lifted os started H enc)
end Go.Proofs.Ybulkjuq.lawS0523BSplit

namespace Go.Proofs.Ybulkjuq
theorem split_card : Rows.LawS0523BSplitSaid := lawS0523BSplit.over
end Go.Proofs.Ybulkjuq

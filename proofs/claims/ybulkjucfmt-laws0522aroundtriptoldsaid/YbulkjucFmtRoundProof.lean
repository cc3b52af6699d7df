/-
  THE TOLD AND TIED CARD OF wire.LawS0522ARoundTrip, PROVED.
-/
import Derived.Test.YbulkjucFmtRound
import Derived.Test.YbulkjucFmtOpenE
import Derived.Test.YbulkjucFmtTie
import Derived.Test.YbulkjucFmtCards
import Derived.ProofKit
import Derived.Stop.JoinedAt
import Derived.Stop.JoinedTold
import Derived.OpenShut
import Derived.OpenVars
import Derived.LaidMore
import Derived.Deep.DeepWitnessRef
import Derived.SevenTiedAt
namespace Go.Proofs.YbulkjucFmt
open Go.ChangeShapes Go.WideShapes Go.ChangeAt Go.RowKit
open Go.Extern.Stop Go.Stop Go.Extern

theorem own : ownKnob Ybaf.prog.godebug = Option.none := by kernel_rfl
theorem laidOut : laidOutB Ybaf.pinned.checked.prog = true := by kernel_rfl
theorem stops : Ybaf.pinned.checked.prog.stops = ["fmt.Sprintf", "fmt.errorf"] := by kernel_rfl
theorem stopKnobs : Ybaf.pinned.checked.prog.stopKnobs = [] := by kernel_rfl
theorem quiet (os : Os) : Stop.quiet Ybaf.pinned.checked.prog os := by
  intro k hk
  rw [stopKnobs] at hk
  cases hk

def zeros : Array Value := (List.replicate 32 (Value.int .u8 0)).toArray

/-- The door's own heap meets the condition: closed facts. -/
theorem door_met (os : Os) (args : Array Value) : laidMetH Ybaf.prog Rows.lawS0522ARoundTripRow.laid ((World.doorLaid Ybaf.prog 28 os).forCall (fun _ _ => 0) ⟨#[], args, []⟩).memory :=
  laidMetH_of_parts3 (fuel := 8) (laidMet_of_run' 8 (by kernel_rfl) (by kernel_rfl)) (by kernel_rfl) (by kernel_rfl)

set_option maxRecDepth 100000 in
theorem round_lifted (os : Os) (started : os.Started) (H : Type) (enc : TypeId × Value → H) :
    ReturnsInTold Option.none {} Ybaf.checked os 4 .any Input.okWide ((OpenSpec.ofChange Rows.lawS0522ARoundTripSpec).preRow enc Ybaf.prog Ybaf.f4 [] false Rows.lawS0522ARoundTripRow.laid) (fun F => ((OpenSpec.ofChange Rows.lawS0522ARoundTripSpec).at F).post enc Ybaf.prog Ybaf.f4 false true false false) (aloneAtReturn Ybaf.prog) nothingAlways := by
  refine returnsInTold_of_row (C := Ybaf.checked) (s := OpenSpec.ofChange Rows.lawS0522ARoundTripSpec) (by kernel_rfl) own started (by kernel_rfl) Ybaf.func4
    (OpenSpec.witness_stopped_atRef (enc := enc) (C := Ybaf.checked) false (World.doorLaid Ybaf.prog 28 os) #[.agg zeros, .slice Option.none 0 0, .slice Option.none 0 0, .slice Option.none 0 0] rfl (by kernel_rfl) (by kernel_rfl) (by kernel_rfl)
      (OpenSpec.preRow_of_B rfl 8 (by kernel_rfl) (by kernel_rfl) (door_met os _))) ?_
  intro F W base args ds gs before _ hF hval0 hW _ _ _ _ _
  have hval : ∀ (j : Nat) t v, Ybaf.f4.params[j]? = some t → args[j]? = some v → Value.okWide Ybaf.prog W .any base t v := hval0
  have hW' := hW
  obtain ⟨p, q, hA0, hV, rfl, hfz, hnd⟩ := hW
  have hA : DataW.TrodAll enc Ybaf.prog W 0 (fun _ => true) true Ybaf.f4.params.toList args.toList ds p := hA0
  rw [Ybaf.params4] at hA hval
  obtain ⟨v0, v1, v2, v3, d0, d1, d2, d3, p0, p1, p2, p3, rfl, rfl, rfl, h0, h1, h2, h3⟩ := trodAll_four hA
  have hV1 : DataW.TrodVars enc Ybaf.prog W (fun _ => true) Rows.lawS0522ARoundTripSpec.vars gs q := hV
  obtain ⟨g0, rfl⟩ : ∃ g, gs = [g] := by
    obtain ⟨_, _, _, _, d, _, h, _⟩ := trodVars_one hV1
    exact ⟨d, h⟩
  obtain ⟨cs, rfl, hsz, _⟩ : ∃ cs, v0 = .agg cs ∧ cs.size = Ybaf.prog.cellsOf 22 ∧ Row.okWide Ybaf.prog W .any base 22 cs := by
    have := hval 0 22 v0 rfl rfl
    simpa [Value.okWide, Ybaf.underlying22] using this
  have k0 := h0
  have k1 := h1
  have k2 := h2
  have k3 := h3
  obtain ⟨R, hR, hcs⟩ : ∃ R : List Int, R.length = 32 ∧ cs.toList = cu8 R := by
    obtain ⟨fuel, hf⟩ := k0
    exact array_read hf
  obtain ⟨a1, len1, cap1, rfl⟩ := okWide_slice Ybaf.underlying23 (hval 1 23 v1 rfl rfl)
  obtain ⟨a2, len2, cap2, rfl⟩ := okWide_slice Ybaf.underlying24 (hval 2 24 v2 rfl rfl)
  obtain ⟨a3, len3, cap3, rfl⟩ := okWide_slice Ybaf.underlying25 (hval 3 25 v3 rfl rfl)
  have o1 : ∀ ad, a1 = some ad → ∃ b off, ad = ⟨b, off, none⟩ ∧ b < W.heap.size := fun ad e => by
    have := hval 1 23 _ rfl rfl
    rw [e] at this
    exact addr_of_okWide Ybaf.underlying23 this
  have o2 : ∀ ad, a2 = some ad → ∃ b off, ad = ⟨b, off, none⟩ ∧ b < W.heap.size := fun ad e => by
    have := hval 2 24 _ rfl rfl
    rw [e] at this
    exact addr_of_okWide Ybaf.underlying24 this
  have o3 : ∀ ad, a3 = some ad → ∃ b off, ad = ⟨b, off, none⟩ ∧ b < W.heap.size := fun ad e => by
    have := hval 3 25 _ rfl rfl
    rw [e] at this
    exact addr_of_okWide Ybaf.underlying25 this
  obtain ⟨S, hS1, hS2, hS3, _, hS5⟩ : ∃ zs : List Int, zs.length = len1 ∧ len1 ≤ cap1 ∧ len1 ≤ maxLen ∧ (∀ z ∈ zs, (Lit.int .u8 z).wf = true) ∧ ((a1 = none ∧ len1 = 0 ∧ cap1 = 0) ∨ ∃ ad, a1 = some ad ∧ ∀ i z, zs[i]? = some z → W.cell? (ad.add i) = some (.int .u8 z)) := by
    obtain ⟨fuel, hf⟩ := k1
    exact ints_read Ybaf.underlying23 Ybaf.underlying5 cells5 hf
  obtain ⟨U, hU1, _, _, hU4, hU5⟩ : ∃ zs : List Int, zs.length = len2 ∧ len2 ≤ cap2 ∧ len2 ≤ maxLen ∧ (∀ z ∈ zs, (Lit.int .u16 z).wf = true) ∧ ((a2 = none ∧ len2 = 0 ∧ cap2 = 0) ∨ ∃ ad, a2 = some ad ∧ ∀ i z, zs[i]? = some z → W.cell? (ad.add i) = some (.int .u16 z)) := by
    obtain ⟨fuel, hf⟩ := k2
    exact ints_read Ybaf.underlying24 Ybaf.underlying34 cells34 hf
  obtain ⟨es, hE⟩ : ∃ es, AESrc W a3 len3 cap3 es := by
    obtain ⟨fuel, hf⟩ := k3
    exact exts_read hf o3
  have hcsA : cs = (cu8 R).toArray := by rw [← hcs]
  have lt0 : ∀ x ∈ p0, x.block < W.heap.size := by obtain ⟨m, hm⟩ := k0; exact DataW.trod_lt m _ _ _ hm
  have lt1 : ∀ x ∈ p1, x.block < W.heap.size := by obtain ⟨m, hm⟩ := k1; exact DataW.trod_lt m _ _ _ hm
  have lt2 : ∀ x ∈ p2, x.block < W.heap.size := by obtain ⟨m, hm⟩ := k2; exact DataW.trod_lt m _ _ _ hm
  have lt3 : ∀ x ∈ p3, x.block < W.heap.size := by obtain ⟨m, hm⟩ := k3; exact DataW.trod_lt m _ _ _ hm
  have call := round_any R S U len1 cap1 len2 cap2 len3 cap3 a1 a2 a3 es W hR (src_plain hS1 hS5 o1) hS2 hS3 (src_plain hU1 hU5 o2) (fun x hx => by have := bounds_u16 (hU4 x hx); omega) hE
  rw [← hcsA] at call
  clear hA0 hval0
  refine call.mono fun e W' ⟨he, bel⟩ => ?_
  subst he
  exact ⟨_, rfl, _, _, _, [], _, _, hW', trodAll_mk1 (shut_bool Ybaf.underlying4 _), trodAll_cons_mk (Below.trod laidOut (by kernel_rfl) (of_decide_eq_true (by kernel_rfl)) k0 bel lt0) (trodAll_cons_mk (Below.trod laidOut (by kernel_rfl) (of_decide_eq_true (by kernel_rfl)) k1 bel lt1) (trodAll_cons_mk (Below.trod laidOut (by kernel_rfl) (of_decide_eq_true (by kernel_rfl)) k2 bel lt2) (trodAll_cons_mk (Below.trod laidOut (by kernel_rfl) (of_decide_eq_true (by kernel_rfl)) k3 bel lt3) trodAll_mk0))), Below.trodVars laidOut bel (by kernel_rfl) hV1, bel.frame _, fun h => by cases h⟩

theorem round_card : Rows.LawS0522ARoundTripToldSaid :=
  Claim7.holds_of_told_tied_any_at .later 4 Ybaf.f4 "fmt.Sprintf" ["fmt.errorf"] [] _ _ _ _ _ (by kernel_rfl) rfl rfl rfl laidOut (by kernel_rfl) rfl ⟨rfl, rfl, rfl, rfl, rfl, rfl, rfl⟩ rfl rfl (by kernel_rfl) (by kernel_rfl) Ybaf.func4 (by kernel_rfl)
    (of_decide_eq_true (by kernel_rfl)) (by unfold Func.isWrapper; first | (rw [if_pos (by decide +kernel)]; kernel_rfl) | (rw [if_neg (by decide +kernel)]; exact ⟨rfl, rfl⟩)) stops.symm rfl stopKnobs.symm (by kernel_rfl)
    (by kernel_rfl) (by kernel_rfl) (by kernel_rfl) (by kernel_rfl) (by kernel_rfl) (by kernel_rfl) (by kernel_rfl) (by kernel_rfl) (by kernel_rfl) rfl (by kernel_rfl) rfl rfl
    rfl rfl
    rfl (by kernel_rfl) (by kernel_rfl) (by kernel_rfl) (by decide) (by kernel_rfl) lawS0522ARoundTrip_row_tie
    (OpenClaim.moreEntering_of (by kernel_rfl) (by kernel_rfl) (by kernel_rfl) (by kernel_rfl) (by kernel_rfl) (by kernel_rfl) (by kernel_rfl) (by kernel_rfl) (by kernel_rfl) (by kernel_rfl))
    ⟨_, WideRow.started_initial, quiet _⟩
    (fun os started _ H enc _ => round_lifted os started H enc)
end Go.Proofs.YbulkjucFmt

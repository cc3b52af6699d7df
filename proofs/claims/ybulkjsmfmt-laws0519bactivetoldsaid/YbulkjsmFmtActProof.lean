/-
  THE TOLD AND TIED CARD OF qsig.LawS0519BActive, PROVED.
-/
import Derived.Test.YbulkjsmFmtActWalk
import Derived.Test.YbulkjsmFmtActRest
import Derived.Test.YbulkjsmFmtTie
import Derived.Test.YbulkjsmFmtCards
import Derived.ProofKit
import Derived.Stop.JoinedAt
import Derived.Stop.JoinedTold
import Derived.OpenShut
import Derived.OpenVars
import Derived.LaidMore
import Derived.Deep.DeepWitnessRef
import Derived.SevenTiedAt
namespace Go.Proofs.YbulkjsmFmt
open Go.ChangeShapes Go.WideShapes Go.ChangeAt Go.RowKit
open Go.Extern.Stop Go.Stop Go.Extern

theorem own : ownKnob Ybaf.prog.godebug = Option.none := by kernel_rfl
theorem laidOut : laidOutB Ybaf.pinned.checked.prog = true := by kernel_rfl
theorem stops : Ybaf.pinned.checked.prog.stops = ["fmt.errorf", "fmt.Sprintf"] := by kernel_rfl
theorem stopKnobs : Ybaf.pinned.checked.prog.stopKnobs = [] := by kernel_rfl
theorem quiet (os : Os) : Stop.quiet Ybaf.pinned.checked.prog os := by
  intro k hk
  rw [stopKnobs] at hk
  cases hk
theorem cells5 : Ybaf.prog.cellsOf 5 = 1 := by kernel_rfl
theorem gNames : Rows.lawS0519BActiveRow.laid.map (fun x => Ybaf.prog.globalNamed x.1) = [some 0] := by kernel_rfl
theorem gType : (Ybaf.prog.globals[0]?).map (·.type) = some 23 := by kernel_rfl

/-- The door's own heap meets the condition: closed facts. -/
theorem door_met (os : Os) (args : Array Value) : laidMetH Ybaf.prog Rows.lawS0519BActiveRow.laid ((World.doorLaid Ybaf.prog 14 os).forCall (fun _ _ => 0) ⟨#[], args, []⟩).memory :=
  laidMetH_of_parts3 (fuel := 8) (laidMet_of_run' 8 (by kernel_rfl) (by kernel_rfl)) (by kernel_rfl) (by kernel_rfl)

def headI : List Int := [159, 170, 6, 128, 1, 0, 130, 1, 0, 139, 1, 2]
theorem headD {H : Type} : (Rows.laid_example_com_callwright_callwright_internal_qsig_facilityHeader : DataW H) = .slice (headI.map fun n => .lit (.int .u8 n)) [] := rfl

/-- What the condition gives the walks: the variable's cell, and the octets behind it. -/
theorem of_laid {W : World} (h : laidMetH Ybaf.prog Rows.lawS0519BActiveRow.laid W) : ∃ fa fc, W.cell? ⟨0, 0, none⟩ = some (.slice (some fa) 12 fc) ∧ LiesAt W fa (cu8 headI) ∧ fa.block < W.heap.size := by
  rw [MakeChecks.laidMetH_plain _ _ _ (by kernel_rfl)] at h
  obtain ⟨ps, ⟨g0, t0, cs0, f0, p0, q0, hg0, ht0, hv0, hd0, _, _⟩, _⟩ := h
  have gN := gNames
  simp only [Rows.lawS0519BActiveRow, List.map_cons, List.map_nil, List.cons.injEq, and_true] at gN
  obtain rfl := Option.some.inj (gN.symm.trans hg0)
  obtain rfl := Option.some.inj (gType.symm.trans ht0)
  rw [headD] at hd0
  obtain ⟨a, cap, hcs, hcap, hrow⟩ := open_row Ybaf.underlying23 cells5 hd0
  have hcell : W.cell? ⟨0, 0, none⟩ = some (.slice (some a) 12 cap) := by
    have := World.var?_cell hg0 hv0 0
    rw [Array.eq_one_of_toList hcs] at this
    simpa [headI] using this
  have hlies : LiesAt W a (cu8 headI) := fun j u hj => by
    simp only [cu8, List.getElem?_map, Option.map_eq_some_iff] at hj
    obtain ⟨n, hn, rfl⟩ := hj
    obtain ⟨v, m, q, hv, ht⟩ := hrow j (.lit (.int .u8 n)) (by simp [List.getElem?_map, hn])
    obtain ⟨n', e1, e2, _⟩ := DataW.trod_int Ybaf.underlying5 ht
    simp at e1 e2
    rw [hv, e1, e2.1]
  refine ⟨a, cap, hcell, hlies, ?_⟩
  have := World.block_lt_of_cell? W _ (hlies 0 (.int .u8 159) rfl)
  rwa [add_block] at this

theorem act_any (F : Interp) (v sel : Int) (peer held : Bool) (a : Option Addr) (len cap : Nat) (w : World) (hF : F.answers w.tape) (hv0 : 0 ≤ v) (hv1 : v < 65536) (hs0 : 0 ≤ sel) (hs1 : sel ≤ 255)
    (hrow : len = 0 ∨ ∃ ad L, a = some ad ∧ L.length = len ∧ LiesAt w ad (cu8 L)) {fa : Addr} {fc : Nat} (hc : w.cell? ⟨0, 0, none⟩ = some (.slice (some fa) 12 fc)) (hfl : LiesAt w fa (cu8 headI)) (hfb : fa.block < w.heap.size) :
    Calls Ybaf.prog 3 #[.int .u16 v, .bool peer, .slice a len cap, .int .u8 sel, .bool held] w fun e w' => e = .returned (.bool true) ∧ Below w.heap.size w w' := by
  by_cases h : 1024 < len
  · exact act_long v sel peer held a len cap w h
  by_cases h3 : len = 0
  · cases held
    · exact act_empty_false F v sel peer a len cap w hF hs0 hs1 h3
    · exact act_empty_true F v sel peer a len cap w hF hs0 hs1 h3
  by_cases h4 : 20 < len
  · cases held
    · exact act_over_false F v sel peer a len cap w hF hs0 hs1 h4 (by omega)
    · exact act_over_true F v sel peer a len cap w hF hs0 hs1 h4 (by omega)
  by_cases h5 : sel % 10 = 7
  · rcases hrow with h6 | ⟨ad, L, rfl, hl, hlies⟩
    · exact absurd h6 h3
    have hab : ad.block < w.heap.size := by
      have hL0 : ∃ u, (cu8 L)[0]? = some u := ⟨_, List.getElem?_eq_getElem (by rw [cu8_length]; omega)⟩
      obtain ⟨u, hu⟩ := hL0
      have := World.block_lt_of_cell? w _ (hlies 0 u hu)
      rwa [add_block] at this
    cases held
    · exact act_seven_f v sel peer ad len cap L fa fc headI w hv0 hv1 hs0 hs1 h5 (by omega) (by omega) hl hlies hab hc rfl hfl hfb
    · exact act_seven_t v sel peer ad len cap L fa fc headI w hv0 hv1 hs0 hs1 h5 (by omega) (by omega) hl hlies hab hc rfl hfl hfb
  · cases held
    · exact act_other_false v sel peer a len cap w hs0 hs1 (by omega) (by omega) h5
    · exact act_other_true v sel peer a len cap w hs0 hs1 (by omega) (by omega) h5

set_option maxRecDepth 100000 in
theorem act_lifted (os : Os) (started : os.Started) (H : Type) (enc : TypeId × Value → H) :
    ReturnsInTold Option.none {} Ybaf.checked os 3 .any Input.okWide ((OpenSpec.ofChange Rows.lawS0519BActiveSpec).preRow enc Ybaf.prog Ybaf.f3 [] false Rows.lawS0519BActiveRow.laid) (fun F => ((OpenSpec.ofChange Rows.lawS0519BActiveSpec).at F).post enc Ybaf.prog Ybaf.f3 false true false false) (aloneAtReturn Ybaf.prog) nothingAlways := by
  refine returnsInTold_of_row (C := Ybaf.checked) (s := OpenSpec.ofChange Rows.lawS0519BActiveSpec) (by kernel_rfl) own started (by kernel_rfl) Ybaf.func3
    (OpenSpec.witness_stopped_atRef (enc := enc) (C := Ybaf.checked) false (World.doorLaid Ybaf.prog 14 os) #[.int .u16 0, .bool false, .slice Option.none 0 0, .int .u8 0, .bool false] rfl (by kernel_rfl) (by kernel_rfl) (by kernel_rfl)
      (OpenSpec.preRow_of_B rfl 8 (by kernel_rfl) (by kernel_rfl) (door_met os _))) ?_
  intro F W base args ds gs before _ hF hval0 hW _ _ _ hL _
  have hval : ∀ (j : Nat) t v, Ybaf.f3.params[j]? = some t → args[j]? = some v → Value.okWide Ybaf.prog W .any base t v := hval0
  have hW' := hW
  obtain ⟨p, q, hA0, hV, rfl, hfz, hnd⟩ := hW
  have hA : DataW.TrodAll enc Ybaf.prog W 0 (fun _ => true) true Ybaf.f3.params.toList args.toList ds p := hA0
  rw [Ybaf.params3] at hA hval
  obtain ⟨v0, vs0, d0, ds0, p0, q0, hargs, rfl, rfl, h0, r0⟩ := trodAll_cons hA
  obtain ⟨v1, vs1, d1, ds1, p1, q1, rfl, rfl, rfl, h1, r1⟩ := trodAll_cons r0
  obtain ⟨v2, vs2, d2, ds2, p2, q2, rfl, rfl, rfl, h2, r2⟩ := trodAll_cons r1
  obtain ⟨v3, vs3, d3, ds3, p3, q3, rfl, rfl, rfl, h3, r3⟩ := trodAll_cons r2
  obtain ⟨v4, vs4, d4, ds4, p4, q4, rfl, rfl, rfl, h4, r4⟩ := trodAll_cons r3
  obtain ⟨rfl, rfl, rfl⟩ := trodAll_nil r4
  obtain rfl : args = #[v0, v1, v2, v3, v4] := by cases args; simp_all
  obtain ⟨n0, rfl, rfl, rfl, wn0⟩ := open_int Ybaf.underlying22 (hval 0 22 v0 rfl rfl) h0
  obtain ⟨b1, rfl, rfl, rfl⟩ := open_bool Ybaf.underlying4 (hval 1 4 v1 rfl rfl) h1
  obtain ⟨a2, len2, cap2, rfl⟩ := okWide_slice Ybaf.underlying23 (hval 2 23 v2 rfl rfl)
  obtain ⟨n3, rfl, rfl, rfl, wn3⟩ := open_int Ybaf.underlying5 (hval 3 5 v3 rfl rfl) h3
  obtain ⟨b4, rfl, rfl, rfl⟩ := open_bool Ybaf.underlying4 (hval 4 4 v4 rfl rfl) h4
  have k2 := h2
  have lt2 : ∀ x ∈ p2, x.block < W.heap.size := by obtain ⟨m, hm⟩ := k2; exact DataW.trod_lt m _ _ _ hm
  have hrow : len2 = 0 ∨ ∃ ad L, a2 = some ad ∧ L.length = len2 ∧ LiesAt W ad (cu8 L) := by
    obtain ⟨fuel, hf⟩ := h2
    rcases open_ints Ybaf.underlying23 Ybaf.underlying5 cells5 hf with ⟨hcs, _⟩ | ⟨x, l, c, zs, hcs, _, hl, hm, hz, _, hcell, hwz⟩
    · simp [Value.cells] at hcs
      exact .inl hcs.2.1
    · simp [Value.cells] at hcs
      obtain ⟨rfl, rfl, rfl⟩ := hcs
      have hz' : zs.length = cap2 := by simpa using hz
      refine .inr ⟨x, zs.take len2, rfl, by simp; omega, fun j u hj => ?_⟩
      simp only [cu8, List.getElem?_map, Option.map_eq_some_iff] at hj
      obtain ⟨n, hn, rfl⟩ := hj
      rw [List.getElem?_take] at hn
      split at hn
      · have hjl : j < zs.length := (List.getElem?_eq_some_iff.1 hn).1
        rw [hcell j hjl]
        simp [List.getD, hn]
      · cases hn
  obtain ⟨fa, fc, hc, hfl, hfb⟩ := of_laid hL
  have hV1 : DataW.TrodVars enc Ybaf.prog W (fun _ => true) Rows.lawS0519BActiveSpec.vars gs q := hV
  obtain ⟨g0, rfl⟩ : ∃ g, gs = [g] := by
    obtain ⟨_, _, _, _, d, _, h, _⟩ := trodVars_one hV1
    exact ⟨d, h⟩
  clear hA0 hval0
  have hb0 := bounds_u16 wn0
  have hb3 := bounds_u8 wn3
  refine (act_any F.told n0 n3 b1 b4 a2 len2 cap2 W hF (by omega) (by omega) (by omega) (by omega) hrow hc hfl hfb).mono fun e W' ⟨he, bel⟩ => ?_
  subst he
  exact ⟨_, rfl, _, _, _, [], _, _, hW', trodAll_mk1 (shut_bool Ybaf.underlying4 _),
    trodAll_cons_mk (shut_int Ybaf.underlying22 wn0) (trodAll_cons_mk (shut_bool Ybaf.underlying4 _) (trodAll_cons_mk (Below.trod laidOut (by kernel_rfl) (of_decide_eq_true (by kernel_rfl)) k2 bel lt2) (trodAll_cons_mk (shut_int Ybaf.underlying5 wn3) (trodAll_cons_mk (shut_bool Ybaf.underlying4 _) trodAll_mk0)))),
    Below.trodVars laidOut bel (by kernel_rfl) hV1, bel.frame _, fun h => by cases h⟩

theorem act_card : Rows.LawS0519BActiveToldSaid :=
  Claim7.holds_of_told_tied_any_at .later 3 Ybaf.f3 "fmt.errorf" ["fmt.Sprintf"] [] _ _ _ _ _ (by kernel_rfl) rfl rfl rfl laidOut (by kernel_rfl) rfl ⟨rfl, rfl, rfl, rfl, rfl, rfl, rfl⟩ rfl rfl (by kernel_rfl) (by kernel_rfl) Ybaf.func3 (by kernel_rfl)
    (of_decide_eq_true (by kernel_rfl)) (by unfold Func.isWrapper; first | (rw [if_pos (by decide +kernel)]; kernel_rfl) | (rw [if_neg (by decide +kernel)]; exact ⟨rfl, rfl⟩)) stops.symm rfl stopKnobs.symm (by kernel_rfl)
    (by kernel_rfl) (by kernel_rfl) (by kernel_rfl) (by kernel_rfl) (by kernel_rfl) (by kernel_rfl) (by kernel_rfl) (by kernel_rfl) (by kernel_rfl) rfl (by kernel_rfl) rfl rfl
    rfl rfl
    rfl (by kernel_rfl) (by kernel_rfl) (by kernel_rfl) (by decide) (by kernel_rfl) lawS0519BActive_row_tie
    (OpenClaim.moreEntering_of (by kernel_rfl) (by kernel_rfl) (by kernel_rfl) (by kernel_rfl) (by kernel_rfl) (by kernel_rfl) (by kernel_rfl) (by kernel_rfl) (by kernel_rfl) (by kernel_rfl))
    ⟨_, WideRow.started_initial, quiet _⟩
    (fun os started _ H enc _ => act_lifted os started H enc)
end Go.Proofs.YbulkjsmFmt

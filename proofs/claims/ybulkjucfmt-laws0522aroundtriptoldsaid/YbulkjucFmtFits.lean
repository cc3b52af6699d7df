import Derived.Test.YbulkjucFmtExts
namespace Go.Proofs.YbulkjucFmt
open Go.RowKit

theorem lies_ints {w : World} {oa : Option Addr} {n c : Nat} {xs : List Int} (h : Src w oa n 1 c (cu8 xs)) (h0 : 0 < n) : ∃ g off, oa = some ⟨g, off, none⟩ ∧ xs.length = n ∧ ∀ i, i < n → w.cell? ⟨g, off + i, none⟩ = some (.int .u8 (xs.getD i 0)) := by
  obtain ⟨hl, h⟩ := h
  rw [cu8_length] at hl
  rcases h with ⟨_, rfl, _⟩ | ⟨g, off, rfl, _, hc⟩
  · omega
  · refine ⟨g, off, rfl, by omega, fun i hi => hc i _ ?_⟩
    have hi' : i < xs.length := by omega
    simp [cu8, List.getElem?_eq_getElem hi', List.getD]

set_option maxHeartbeats 400000 in
theorem equal_true (o1 o2 : Option Addr) (n c1 c2 : Nat) (xs : List Int) (w : World) (h0 : 0 < n) (hx : Src w o1 n 1 c1 (cu8 xs)) (hy : Src w o2 n 1 c2 (cu8 xs)) :
    Calls Ybaf.prog 8 #[.slice o1 n c1, .slice o2 n c2] w fun e w' => e = .returned (.bool true) ∧ w' = w := by
  obtain ⟨g1, f1, rfl, hl1, k1⟩ := lies_ints hx h0
  obtain ⟨g2, f2, rfl, hl2, k2⟩ := lies_ints hy h0
  have e1 := run_convert_bytes_arg (P := Ybaf.prog) w 23 5 Ybaf.underlying23 Ybaf.underlying5 g1 f1 n c1 xs hl1 k1 9 Ybaf.underlying9
  have e2 := run_convert_bytes_arg (P := Ybaf.prog) w 23 5 Ybaf.underlying23 Ybaf.underlying5 g2 f2 n c2 xs hl1 k2 9 Ybaf.underlying9
  clear hx hy hl1 k1 k2 hl2
  go_enter Ybaf.func8, Ybaf.ntmps8
  go_wp2
  go_ret
  exact ⟨by simp, rfl⟩

/-- The input fits. -/
def Fit (nU nE : Nat) (es : List EX) : Prop := nU ≤ 1024 ∧ nE ≤ 256 ∧ (∀ x ∈ es, x.d.length ≤ 1024) ∧ (encE es).length ≤ 65535

set_option maxHeartbeats 800000 in
theorem fits_any (oU oE : Option Addr) (nU cU nE cE : Nat) (es : List EX) (w : World) (hE : AESrc w oE nE cE es) :
    Calls Ybaf.prog 5 #[.slice oU nU cU, .slice oE nE cE] w fun e w' => w' = w ∧ (e = .returned (.bool false) ∨ e = .returned (.bool true) ∧ Fit nU nE es) := by
  by_cases h1 : nU ≤ 1024
  · by_cases h2 : nE ≤ 256
    · have HE : Hid (AESrc w oE nE cE es) := hE
      clear hE
      go_enter Ybaf.func5, Ybaf.ntmps5
      go_wp2
      go_loop [5, 6] (fun t i => ∃ (k : Nat), k ≤ nE ∧ i = .int .i64 (k : Nat) ∧ t = .int .i64 ((encE (es.take k)).length : Nat) ∧ ∀ x ∈ es.take k, x.d.length ≤ 1024) (fun _ i => nE - (intOf i).toNat)
      case atStart => exact ⟨0, Nat.zero_le _, rfl, rfl, by simp⟩
      case round =>
        obtain ⟨k, hk, rfl, rfl, hd⟩ := hrel
        by_cases hlt : k < nE
        · obtain ⟨b, off, rfl, hb, x, hx, c1, c2⟩ := HE.out.at_ hlt
          have hbd := encE_bound (es.take k) hd
          have htl : (es.take k).length ≤ k := by simp; omega
          have HB : Hid ((encE (es.take (k + 1))).length = (encE (es.take k)).length + 2 + 2 + x.d.length) := by
            show _ = _
            rw [List.take_add_one, hx, encE_length_snoc]
          have HD : Hid (x.d.length ≤ 1024 → ∀ y ∈ es.take (k + 1), y.d.length ≤ 1024) := by
            intro hx1 y hy
            rw [List.take_add_one, hx] at hy
            rcases List.mem_append.1 hy with hy | hy
            · exact hd y hy
            · simp at hy; subst hy; exact hx1
          have HX : Hid (x ∈ es) := List.mem_of_getElem? hx
          generalize (encE (es.take k)).length = N at *
          clear hd hx
          obtain ⟨ty, ob, c, d⟩ := x
          simp only at *
          generalize hdl : d.length = dl at *
          by_cases hd1 : dl ≤ 1024
          · go_wp2
            go_round
            case rel => exact ⟨k + 1, by omega, by go_num, by rw [HB.out]; go_num, HD.out hd1⟩
            case measure => simp [intOf]; omega
          · go_wp2
            go_ret
            exact ⟨rfl, Or.inl rfl⟩
        · have hkn : k = nE := by omega
          subst hkn
          rw [List.take_of_length_le (l := es) (by rw [HE.out.length]; omega)] at *
          have HD : Hid (∀ x ∈ es, x.d.length ≤ 1024) := hd
          clear hd
          generalize hN : (encE es).length = N at *
          by_cases hN2 : N ≤ 65535
          · go_wp2
            go_ret
            refine ⟨rfl, Or.inr ⟨?_, ⟨h1, h2, HD.out, by omega⟩⟩⟩
            rw [← show decide ((N : Int) ≤ 65535) = true from decide_eq_true (by omega)]
            rfl
          · go_wp2
            go_ret
            refine ⟨rfl, Or.inl ?_⟩
            rw [← show decide ((N : Int) ≤ 65535) = false from decide_eq_false (by omega)]
            rfl
    · clear hE
      go_enter Ybaf.func5, Ybaf.ntmps5
      go_wp2
      go_ret
      exact ⟨rfl, Or.inl rfl⟩
  · clear hE
    go_enter Ybaf.func5, Ybaf.ntmps5
    go_wp2
    go_ret
    exact ⟨rfl, Or.inl rfl⟩
end Go.Proofs.YbulkjucFmt

/-
  signedHeaders: rows of pairs of strings; the sum of their lengths.
-/
import Derived.Test.YbulkjuqRows
import Derived.WalkKit
import Derived.WalkSpells
import Derived.WalkLawsBesides
import Derived.Handy
import Derived.Below
import Derived.OwnWalk
namespace Go.Proofs.Ybulkjuq
open Go.RowKit

/-- A header: its name, its value. -/
abbrev PS := ByteArray × ByteArray
/-- The sum of the lengths. -/
def tot (ps : List PS) : Nat := (ps.map fun p => p.1.size + p.2.size + 2).sum
theorem tot_append (ps qs : List PS) : tot (ps ++ qs) = tot ps + tot qs := by simp [tot]
theorem tot_snoc (ps : List PS) (p : PS) : tot (ps ++ (some p).toList) = tot ps + (p.1.size + p.2.size + 2) := by simp [tot]
theorem tot_bound (ps : List PS) (h : ∀ p ∈ ps, p.1.size ≤ 140737488351232 ∧ p.2.size ≤ 140737488351232) : tot ps ≤ ps.length * 281474976702470 ∧ 2 * ps.length ≤ tot ps := by
  induction ps with
  | nil => simp [tot]
  | cons p ps ih =>
    have h1 := h p (by simp)
    have h2 := ih fun q hq => h q (by simp [hq])
    simp [tot] at h1 h2 ⊢
    omega

/-- A slice of headers to be read. -/
structure PSrc (w : World) (oa : Option Addr) (m : Nat) (ps : List PS) : Prop where
  len : ps.length = m
  at_ : m = 0 ∨ ∃ b off, oa = some ⟨b, off, none⟩ ∧ b < w.heap.size ∧ ∀ k p, ps[k]? = some p → w.cell? ⟨b, off + k * 4, none⟩ = some (.string p.1) ∧ w.cell? ⟨b, off + k * 4 + 1, none⟩ = some (.string p.2) ∧ w.cell? ⟨b, off + k * 4 + 2, none⟩ = some (.int .u64 0) ∧ w.cell? ⟨b, off + k * 4 + 3, none⟩ = some (.int .u64 0)
  fits : ∀ p ∈ ps, p.1.size ≤ 140737488351232 ∧ p.2.size ≤ 140737488351232
theorem PSrc.below {w w' : World} {oa : Option Addr} {m : Nat} {ps : List PS} (h : PSrc w oa m ps) (hb : Below w.heap.size w w') : PSrc w' oa m ps := by
  refine ⟨h.len, ?_, h.fits⟩
  rcases h.at_ with h0 | ⟨b, off, h1, h2, h3⟩
  · exact Or.inl h0
  · refine Or.inr ⟨b, off, h1, Nat.lt_of_lt_of_le h2 hb.size, fun k p hk => ?_⟩
    obtain ⟨e1, e2, e3, e4⟩ := h3 k p hk
    exact ⟨(hb.cell (p := ⟨b, off + k * 4, none⟩) h2).trans e1, (hb.cell (p := ⟨b, off + k * 4 + 1, none⟩) h2).trans e2, (hb.cell (p := ⟨b, off + k * 4 + 2, none⟩) h2).trans e3, (hb.cell (p := ⟨b, off + k * 4 + 3, none⟩) h2).trans e4⟩

set_option maxHeartbeats 800000 in
theorem max_len (oa : Option Addr) (m c : Nat) (ps : List PS) (w : World) (hp : PSrc w oa m ps) (hm : m ≤ 1024) :
    Calls Yba.prog 12 #[.agg #[.slice oa m c]] w fun e w' => e = .returned (.int .i64 (tot ps : Nat)) ∧ Below w.heap.size w w' := by
  have HP : Hid (PSrc w oa m ps) := hp
  clear hp
  go_enter Yba.func12, Yba.ntmps12
  go_wp2
  generalize hW0 : w.alloc (.cells #[.slice oa m c] 38) = w0
  have HL : Hid (Below w.heap.size w w0) := by rw [← hW0]; exact (Below.refl _ _).alloc (Nat.le_refl _) _
  clear hW0
  go_loopw [3, 9] (fun t i wr => ∃ (k : Nat), k ≤ m ∧ i = .int .i64 (k : Nat) ∧ t = .int .i64 (tot (ps.take k) : Nat) ∧ Below w.heap.size w wr) (fun _ i _ => m - (intOf i).toNat)
  case atStart => exact ⟨0, Nat.zero_le _, rfl, rfl, HL.out⟩
  case round =>
    obtain ⟨k, hk, rfl, rfl, hl⟩ := hrel
    have HL2 : Hid (Below w.heap.size w wr) := hl
    have hP := HP.out.below hl
    clear hl
    by_cases hlt : k < m
    · obtain ⟨b, off, rfl, hb, hc⟩ : ∃ b off, oa = some ⟨b, off, none⟩ ∧ b < wr.heap.size ∧ ∀ k p, ps[k]? = some p → wr.cell? ⟨b, off + k * 4, none⟩ = some (.string p.1) ∧ wr.cell? ⟨b, off + k * 4 + 1, none⟩ = some (.string p.2) ∧ wr.cell? ⟨b, off + k * 4 + 2, none⟩ = some (.int .u64 0) ∧ wr.cell? ⟨b, off + k * 4 + 3, none⟩ = some (.int .u64 0) := by
        rcases hP.at_ with h0 | h0
        · omega
        · exact h0
      obtain ⟨p, hp⟩ : ∃ p, ps[k]? = some p := ⟨_, List.getElem?_eq_getElem (by rw [hP.len]; exact hlt)⟩
      obtain ⟨c1, c2, c3, c4⟩ := hc k p hp
      obtain ⟨f1, f2⟩ := hP.fits p (List.mem_of_getElem? hp)
      have HB : Hid (tot (ps.take (k + 1)) = tot (ps.take k) + (p.1.size + p.2.size + 2)) := by
        show _ = _
        rw [List.take_add_one, hp, tot_snoc]
      have hbd := (tot_bound (ps.take k) fun q hq => hP.fits q (List.mem_of_mem_take hq)).1
      have htl : (ps.take k).length ≤ k := by simp; omega
      have hT : tot (ps.take k) ≤ 1024 * 281474976702470 := Nat.le_trans hbd (Nat.mul_le_mul_right _ (by omega))
      generalize tot (ps.take k) = N at *
      clear hbd htl hc hp hP HL
      obtain ⟨s1, s2⟩ := p
      simp only at *
      go_wp2
      go_roundw
      case rel => exact ⟨k + 1, by omega, by go_num, by rw [HB.out]; go_num, HL2.out.alloc HL2.out.size _⟩
      case measure => simp [intOf]; omega
    · have hkn : k = m := by omega
      subst hkn
      have hlen := hP.len
      clear hP
      go_wp2
      go_ret
      refine ⟨?_, HL2.out⟩
      rw [List.take_of_length_le (l := ps) (by omega)]
      rfl

/-- A slice of strings that came in. -/
structure SSrc (w : World) (oa : Option Addr) (n : Nat) (ss : List ByteArray) : Prop where
  len : ss.length = n
  at_ : n = 0 ∨ ∃ b off, oa = some ⟨b, off, none⟩ ∧ b < w.heap.size ∧ ∀ k s, ss[k]? = some s → w.cell? ⟨b, off + k, none⟩ = some (.string s)
  fits : ∀ s ∈ ss, s.size ≤ 140737488351232
theorem SSrc.below {w w' : World} {oa : Option Addr} {n : Nat} {ss : List ByteArray} (h : SSrc w oa n ss) (hb : Below w.heap.size w w') : SSrc w' oa n ss := by
  refine ⟨h.len, ?_, h.fits⟩
  rcases h.at_ with h0 | ⟨b, off, h1, h2, h3⟩
  · exact Or.inl h0
  · exact Or.inr ⟨b, off, h1, Nat.lt_of_lt_of_le h2 hb.size, fun k p hk => (hb.cell (p := ⟨b, off + k, none⟩) h2).trans (h3 k p hk)⟩
theorem SSrc.get {w : World} {oa : Option Addr} {n : Nat} {ss : List ByteArray} (h : SSrc w oa n ss) {k : Nat} (hk : k < n) : ∃ b off s, oa = some ⟨b, off, none⟩ ∧ b < w.heap.size ∧ w.cell? ⟨b, off + k, none⟩ = some (.string s) ∧ s.size ≤ 140737488351232 := by
  rcases h.at_ with h0 | ⟨b, off, h1, h2, h3⟩
  · omega
  · have hk' : k < ss.length := by rw [h.len]; exact hk
    have hx : ss[k]? = some ss[k] := List.getElem?_eq_getElem hk'
    exact ⟨b, off, ss[k], h1, h2, h3 k _ hx, h.fits _ (List.mem_of_getElem? hx)⟩

theorem info36 : (Yba.prog.info? 36).map (fun i => (i.zero, i.size, i.bytes)) = some (some (.agg #[.string ByteArray.empty, .string ByteArray.empty, .int .u64 0, .int .u64 0]), 4, 48) := by kernel_rfl

/-- After k headers. -/
structure Par (w wr : World) (n : Nat) (ps : List PS) (vs : List Value) : Prop where
  own : wr.ownsRow w.heap.size 36 4 (.slice (some ⟨w.heap.size, 0, none⟩) n n) n vs
  val : ∀ j p, ps[j]? = some p → vs[j * 4]? = some (.string p.1) ∧ vs[j * 4 + 1]? = some (.string p.2) ∧ vs[j * 4 + 2]? = some (.int .u64 0) ∧ vs[j * 4 + 3]? = some (.int .u64 0)
  fits : ∀ p ∈ ps, p.1.size ≤ 140737488351232 ∧ p.2.size ≤ 140737488351232
  low : Below w.heap.size w wr

theorem Par.push {w wr : World} {n : Nat} {ps : List PS} {us : List Value} {s v : ByteArray} {k : Nat} (h : Par w wr n ps us) (hpl : ps.length = k) (hk : k < n) (f1 : s.size ≤ 140737488351232) (f2 : v.size ≤ 140737488351232) :
    Par w ((((wr.setCell ⟨w.heap.size, k * 4, none⟩ (.string s)).setCell ⟨w.heap.size, k * 4 + 1, none⟩ (.string v)).setCell ⟨w.heap.size, k * 4 + 2, none⟩ (.int .u64 0)).setCell ⟨w.heap.size, k * 4 + 3, none⟩ (.int .u64 0)) n (ps ++ [(s, v)])
      ((((us.set (k * 4) (.string s)).set (k * 4 + 1) (.string v)).set (k * 4 + 2) (.int .u64 0)).set (k * 4 + 3) (.int .u64 0)) := by
  have hlen : us.length = n * 4 := h.own.1
  have o1 := (h.own.stored (k * 4) (.string s)).1
  have o2 := (o1.stored (k * 4 + 1) (.string v)).1
  have o3 := (o2.stored (k * 4 + 2) (.int .u64 0)).1
  have o4 := (o3.stored (k * 4 + 3) (.int .u64 0)).1
  refine ⟨o4, fun j p hj => ?_, fun p hp => ?_, (((h.low.setCell (p := ⟨w.heap.size, k * 4, none⟩) (Nat.le_refl _) _).setCell (p := ⟨w.heap.size, k * 4 + 1, none⟩) (Nat.le_refl _) _).setCell (p := ⟨w.heap.size, k * 4 + 2, none⟩) (Nat.le_refl _) _).setCell (p := ⟨w.heap.size, k * 4 + 3, none⟩) (Nat.le_refl _) _⟩
  · by_cases hjk : j < k
    · rw [List.getElem?_append_left (by omega)] at hj
      obtain ⟨e1, e2, e3, e4⟩ := h.val j p hj
      refine ⟨?_, ?_, ?_, ?_⟩
      · rw [List.getElem?_set_ne (by omega), List.getElem?_set_ne (by omega), List.getElem?_set_ne (by omega), List.getElem?_set_ne (by omega)]; exact e1
      · rw [List.getElem?_set_ne (by omega), List.getElem?_set_ne (by omega), List.getElem?_set_ne (by omega), List.getElem?_set_ne (by omega)]; exact e2
      · rw [List.getElem?_set_ne (by omega), List.getElem?_set_ne (by omega), List.getElem?_set_ne (by omega), List.getElem?_set_ne (by omega)]; exact e3
      · rw [List.getElem?_set_ne (by omega), List.getElem?_set_ne (by omega), List.getElem?_set_ne (by omega), List.getElem?_set_ne (by omega)]; exact e4
    · rw [List.getElem?_append_right (by omega)] at hj
      have hj0 : j - ps.length = 0 := by
        rcases Nat.eq_zero_or_pos (j - ps.length) with h0 | h0
        · exact h0
        · rw [List.getElem?_eq_none (by simp; omega)] at hj; cases hj
      rw [hj0] at hj
      have hp : (s, v) = p := by simpa using hj
      subst hp
      have hjk2 : j = k := by omega
      subst hjk2
      refine ⟨?_, ?_, ?_, ?_⟩
      · rw [List.getElem?_set_ne (by omega), List.getElem?_set_ne (by omega), List.getElem?_set_ne (by omega), List.getElem?_set_self (by omega)]
      · rw [List.getElem?_set_ne (by omega), List.getElem?_set_ne (by omega), List.getElem?_set_self (by simp; omega)]
      · rw [List.getElem?_set_ne (by omega), List.getElem?_set_self (by simp; omega)]
      · rw [List.getElem?_set_self (by simp; omega)]
  · rcases List.mem_append.1 hp with hp | hp
    · exact h.fits p hp
    · rw [List.mem_singleton.1 hp]; exact ⟨f1, f2⟩
theorem Par.done {w wr : World} {n : Nat} {ps : List PS} {us : List Value} (h : Par w wr n ps us) (hpl : ps.length = n) : PSrc wr (some ⟨w.heap.size, 0, none⟩) n ps := by
  refine ⟨hpl, ?_, h.fits⟩
  by_cases h0 : n = 0
  · exact Or.inl h0
  · rcases h.own.2 with ⟨h1, _⟩ | ⟨g, cap, cur, h1, _, h2, _⟩
    · cases h1
    · cases h1
      refine Or.inr ⟨w.heap.size, 0, rfl, (Array.getElem?_eq_some_iff.1 h2).1, fun k p hk => ?_⟩
      have hk' : k < n := by rw [← hpl]; exact (List.getElem?_eq_some_iff.1 hk).1
      obtain ⟨e1, e2, e3, e4⟩ := h.val k p hk
      simp only [Nat.zero_add]
      exact ⟨(h.own.cellAt _ (by omega)).trans e1, (h.own.cellAt _ (by omega)).trans e2, (h.own.cellAt _ (by omega)).trans e3, (h.own.cellAt _ (by omega)).trans e4⟩

set_option maxHeartbeats 800000 in
theorem build_any (oN oV : Option Addr) (nN cN nV cV : Nat) (ss vs : List ByteArray) (w : World) (hN : SSrc w oN nN ss) (hV : SSrc w oV nV vs) (hn : nN ≤ 1024) (hv : nV ≤ maxLen) :
    Calls Yba.prog 11 #[.slice oN nN cN, .slice oV nV cV] w fun e w' => ∃ ps, e = .returned (.slice (some ⟨w.heap.size, 0, none⟩) nN nN) ∧ PSrc w' (some ⟨w.heap.size, 0, none⟩) nN ps ∧ Below w.heap.size w w' := by
  obtain ⟨i0, hi, hz0, hz1, hz2⟩ := info_parts info36
  have HN : Hid (SSrc w oN nN ss) := hN
  have HV : Hid (SSrc w oV nV vs) := hV
  clear hN hV
  go_enter Yba.func11, Yba.ntmps11
  go_wp2_with (at_make; refine wpList_make_full _ rfl (.tmp 9) (.tmp 9) 30 rfl w.heap.size 36 i0 (.agg #[.string ByteArray.empty, .string ByteArray.empty, .int .u64 0, .int .u64 0]) 4 Yba.underlying30 hi hz0 hz1 .i64 .i64 _ _ nN rfl rfl (by omega) (by omega) (by rw [hz2]; omega) (by unfold maxLen; omega) (Nat.le_refl _) ?_; intro w1 hown1 hg1)
  clear hi hz0 hz1 hz2
  go_loopw [13] (fun i wr => ∃ (k : Nat) (ps : List PS) (us : List Value), k ≤ nN ∧ i = .int .i64 (k : Nat) ∧ ps.length = k ∧ Par w wr nN ps us) (fun i _ => nN - (intOf i).toNat)
  case atStart => exact ⟨0, [], _, Nat.zero_le _, rfl, rfl, ⟨hown1, by simp, by simp, (Below.refl _ _).grown hg1 (Nat.le_refl _) (fun k hk => by cases hk)⟩⟩
  case round =>
    obtain ⟨k, ps, us, hk, rfl, hpl, hB⟩ := hrel
    have HB : Hid (Par w wr nN ps us) := hB
    by_cases hlt : k < nN
    · obtain ⟨b, off, s, rfl, hb, c1, f1⟩ := (HN.out.below hB.low).get hlt
      have hlen : us.length = nN * 4 := hB.own.1
      have cg : ∀ t, t < nN * 4 → ∃ u, wr.cell? ⟨w.heap.size, t, none⟩ = some u := fun t ht => ⟨_, (hB.own.cellAt t ht).trans (List.getElem?_eq_getElem (by omega))⟩
      obtain ⟨u0, g0⟩ := cg (k * 4) (by omega)
      obtain ⟨u1, g1⟩ := cg (k * 4 + 1) (by omega)
      obtain ⟨u2, g2⟩ := cg (k * 4 + 2) (by omega)
      obtain ⟨u3, g3⟩ := cg (k * 4 + 3) (by omega)
      have z0 : wr.frozen? ⟨w.heap.size, k * 4, none⟩ = false := hB.own.frozenAt _
      have z1 : wr.frozen? ⟨w.heap.size, k * 4 + 1, none⟩ = false := hB.own.frozenAt _
      have z2 : wr.frozen? ⟨w.heap.size, k * 4 + 2, none⟩ = false := hB.own.frozenAt _
      have z3 : wr.frozen? ⟨w.heap.size, k * 4 + 3, none⟩ = false := hB.own.frozenAt _
      clear cg
      by_cases hv0 : 0 < nV
      · obtain ⟨r, hr⟩ : ∃ r, r = k % nV := ⟨_, rfl⟩
        have hrv : r < nV := by rw [hr]; exact Nat.mod_lt _ hv0
        obtain ⟨b2, off2, v, rfl, hb2, c2, f2⟩ := (HV.out.below hB.low).get hrv
        have hmod : (k : Int) % (nV : Int) = (r : Int) := by rw [hr]; omega
        have HP : Hid (Par w ((((wr.setCell ⟨w.heap.size, k * 4, none⟩ (.string s)).setCell ⟨w.heap.size, k * 4 + 1, none⟩ (.string v)).setCell ⟨w.heap.size, k * 4 + 2, none⟩ (.int .u64 0)).setCell ⟨w.heap.size, k * 4 + 3, none⟩ (.int .u64 0)) nN (ps ++ [(s, v)]) _) := hB.push hpl hlt f1 f2
        clear hB hlen hr
        unfold maxLen at hv
        go_wp2
        go_roundw
        case rel => exact ⟨k + 1, _, _, by omega, by go_num, by simp [hpl], HP.out⟩
        case measure => simp [intOf]; omega
      · have hv1 : nV = 0 := by omega
        subst hv1
        have HP : Hid (Par w ((((wr.setCell ⟨w.heap.size, k * 4, none⟩ (.string s)).setCell ⟨w.heap.size, k * 4 + 1, none⟩ (.string ⟨#[]⟩)).setCell ⟨w.heap.size, k * 4 + 2, none⟩ (.int .u64 0)).setCell ⟨w.heap.size, k * 4 + 3, none⟩ (.int .u64 0)) nN (ps ++ [(s, ⟨#[]⟩)]) _) := hB.push hpl hlt f1 (Nat.zero_le _)
        clear hB hlen
        go_wp2
        go_roundw
        case rel => exact ⟨k + 1, _, _, by omega, by go_num, by simp [hpl], HP.out⟩
        case measure => simp [intOf]; omega
    · have hkn : k = nN := by omega
      subst hkn
      clear hB
      go_wp2
      go_ret
      exact ⟨ps, rfl, HB.out.done hpl, HB.out.low⟩
end Go.Proofs.Ybulkjuq

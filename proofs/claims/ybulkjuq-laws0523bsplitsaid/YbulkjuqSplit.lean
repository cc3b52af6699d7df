/-
  LawS0523BSplit, WALKED.
-/
import Derived.Test.YbulkjuqHeads
namespace Go.Proofs.Ybulkjuq
open Go.RowKit

theorem PSrc.none (w : World) (oa : Option Addr) : PSrc w oa 0 [] := ⟨rfl, Or.inl rfl, by simp⟩
theorem PSrc.take {w : World} {oa : Option Addr} {m r : Nat} {ps : List PS} (h : PSrc w oa m ps) (hr : r ≤ m) : PSrc w oa r (ps.take r) := by
  refine ⟨by have := h.len; simp; omega, ?_, fun p hp => h.fits p (List.mem_of_mem_take hp)⟩
  rcases h.at_ with h0 | ⟨b, off, h1, h2, h3⟩
  · exact Or.inl (by omega)
  · refine Or.inr ⟨b, off, h1, h2, fun k p hk => h3 k p ?_⟩
    rw [List.getElem?_take] at hk
    split at hk
    · exact hk
    · cases hk
theorem PSrc.drop {w : World} {oa : Option Addr} {b off m r : Nat} {ps : List PS} (h : PSrc w (some ⟨b, off, Option.none⟩) m ps) (ha : r < m → oa = some ⟨b, off + r * 4, Option.none⟩) : PSrc w oa (m - r) (ps.drop r) := by
  refine ⟨by have := h.len; simp; omega, ?_, fun p hp => h.fits p (List.mem_of_mem_drop hp)⟩
  by_cases hr : r < m
  · rcases h.at_ with h0 | ⟨b', off', h1, h2, h3⟩
    · exact Or.inl (by omega)
    · cases h1
      refine Or.inr ⟨b, off + r * 4, ha hr, h2, fun k p hk => ?_⟩
      rw [List.getElem?_drop] at hk
      have h4 := h3 (r + k) p hk
      rw [show off + (r + k) * 4 = off + r * 4 + k * 4 from by omega] at h4
      exact h4
  · exact Or.inl (by omega)

theorem split_long (oN oV : Option Addr) (nN cN nV cV : Nat) (cut : Int) (w : World) (h : 1024 < nN) :
    Calls Yba.prog 6 #[.slice oN nN cN, .slice oV nV cV, .int .u64 cut] w fun e w' => e = .returned (.bool true) ∧ Below w.heap.size w w' := by
  go_enter Yba.func6, Yba.ntmps6
  go_wp2
  go_ret
  exact ⟨rfl, Below.refl _ _⟩

set_option maxHeartbeats 1600000 in
theorem split_any (oN oV : Option Addr) (nN cN nV cV : Nat) (ss vs : List ByteArray) (cut : Int) (w : World) (hN : SSrc w oN nN ss) (hV : SSrc w oV nV vs) (hn : nN ≤ 1024) (hv : nV ≤ maxLen) (h0 : 0 ≤ cut) (h1 : cut < 18446744073709551616) :
    Calls Yba.prog 6 #[.slice oN nN cN, .slice oV nV cV, .int .u64 cut] w fun e w' => e = .returned (.bool true) ∧ Below w.heap.size w w' := by
  have HN : Hid (SSrc w oN nN ss) := hN
  have HV : Hid (SSrc w oV nV vs) := hV
  clear hN hV
  go_enter Yba.func6, Yba.ntmps6
  go_wp2_with fail
  refine (build_any oN oV nN cN nV cV ss vs w HN.out HV.out hn hv).mono ?_
  rintro e w1 ⟨ps, rfl, hp, hb⟩
  generalize hg : w.heap.size = g at *
  have HP1 : Hid (PSrc w1 (some ⟨g, 0, none⟩) nN ps) := hp
  have HB1 : Hid (Below g w w1) := hb
  obtain ⟨t1, t2⟩ := tot_bound ps hp.fits
  rw [hp.len] at t1 t2
  have t3 : tot ps ≤ 1024 * 281474976702470 := Nat.le_trans t1 (Nat.mul_le_mul_right _ hn)
  have HG : Hid (w.heap.size = g) := hg
  clear hp hb HN HV hg t1
  obtain ⟨r, hr, hrn⟩ : ∃ r : Nat, cut % ((nN : Int) + 1) = (r : Int) ∧ r ≤ nN := by
    have e1 := Int.emod_nonneg cut (show (nN : Int) + 1 ≠ 0 from by omega)
    have e2 := Int.emod_lt_of_pos cut (show (0 : Int) < (nN : Int) + 1 from by omega)
    exact ⟨(cut % ((nN : Int) + 1)).toNat, by omega, by omega⟩
  go_wp2_with fail
  refine (max_len none 0 0 [] w1 (PSrc.none _ _) (by omega)).mono ?_
  rintro e w2 ⟨rfl, hb2⟩
  have HP2 : Hid (PSrc w2 (some ⟨g, 0, none⟩) nN ps) := HP1.out.below hb2
  have HB2 : Hid (Below g w w2) := HB1.out.trans (hb2.mono (by have := HB1.out.size; have := HG.out; omega))
  clear hb2 HP1 HB1
  rw [show (tot [] : Nat) = 0 from rfl]
  go_wp2_with fail
  refine (max_len (some ⟨g, 0, none⟩) 0 nN [] w2 (PSrc.none _ _) (by omega)).mono ?_
  rintro e w3 ⟨rfl, hb3⟩
  have HP3 : Hid (PSrc w3 (some ⟨g, 0, none⟩) nN ps) := HP2.out.below hb3
  have HB3 : Hid (Below g w w3) := HB2.out.trans (hb3.mono (by have := HB2.out.size; have := HG.out; omega))
  clear hb3 HP2 HB2
  rw [show (tot [] : Nat) = 0 from rfl]
  go_wp2_with fail
  refine (max_len (some ⟨g, 0, none⟩) nN nN ps w3 HP3.out hn).mono ?_
  rintro e w4 ⟨rfl, hb4⟩
  have HP4 : Hid (PSrc w4 (some ⟨g, 0, none⟩) nN ps) := HP3.out.below hb4
  have HB4 : Hid (Below g w w4) := HB3.out.trans (hb4.mono (by have := HB3.out.size; have := HG.out; omega))
  clear hb4 HP3 HB3
  go_wp2_with fail
  refine (max_len (some ⟨g, 0, none⟩) r nN (ps.take r) w4 (HP4.out.take hrn) (by omega)).mono ?_
  rintro e w5 ⟨rfl, hb5⟩
  have HP5 : Hid (PSrc w5 (some ⟨g, 0, none⟩) nN ps) := HP4.out.below hb5
  have HB5 : Hid (Below g w w5) := HB4.out.trans (hb5.mono (by have := HB4.out.size; have := HG.out; omega))
  clear hb5 HP4 HB4
  have HS : Hid (tot ps = tot (ps.take r) + tot (ps.drop r)) := by
    show _ = _
    rw [← tot_append, List.take_append_drop]
  generalize tot ps = N at *
  generalize tot (ps.take r) = A at *
  rcases Nat.lt_or_ge r nN with hlt | hge
  · go_wp2_with fail
    refine (max_len (some ⟨g, r * 4, none⟩) (nN - r) (nN - r) (ps.drop r) w5 (HP5.out.drop (off := 0) fun _ => by rw [Nat.zero_add]) (by omega)).mono ?_
    rintro e w6 ⟨rfl, hb6⟩
    have HB6 : Hid (Below g w w6) := HB5.out.trans (hb6.mono (by have := HB5.out.size; have := HG.out; omega))
    clear hb6 HP5 HB5
    generalize tot (ps.drop r) = D at *
    have hND : N = A + D := HS.out
    subst hND
    have hge2 : (2 : Int) * (nN : Int) ≤ (A : Int) + (D : Int) := by omega
    go_wp2
    go_ret
    rw [HG.out]
    exact ⟨rfl, HB6.out⟩
  · obtain rfl : r = nN := by omega
    go_wp2_with fail
    refine (max_len (some ⟨g, 0, none⟩) 0 0 [] w5 (PSrc.none _ _) (by omega)).mono ?_
    rintro e w6 ⟨rfl, hb6⟩
    have HB6 : Hid (Below g w w6) := HB5.out.trans (hb6.mono (by have := HB5.out.size; have := HG.out; omega))
    have hdr : tot (ps.drop r) = 0 := by
      rw [List.drop_of_length_le (by rw [HP5.out.len]; omega)]
      rfl
    have hNA : N = A := by have := HS.out; omega
    subst hNA
    clear hb6 HP5 HB5 HS hdr
    rw [show (tot [] : Nat) = 0 from rfl]
    have hge2 : (2 : Int) * (r : Int) ≤ (N : Int) := by omega
    go_wp2
    go_ret
    rw [HG.out]
    exact ⟨rfl, HB6.out⟩
end Go.Proofs.Ybulkjuq

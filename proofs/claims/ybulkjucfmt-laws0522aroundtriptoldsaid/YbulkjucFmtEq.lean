import Derived.Test.YbulkjucFmtFits
import Derived.Test.YbulkjucFmtParse9
import Derived.Test.YbulkjucFmtDed
import Derived.Test.YbulkjucFmtLayout
namespace Go.Proofs.YbulkjucFmt
open Go.RowKit

theorem Src.plain {w : World} {oa : Option Addr} {m size c : Nat} {news : List Value} (h : Src w oa m size c news) : oa = none ∨ ∃ g off, oa = some ⟨g, off, none⟩ := by
  rcases h.2 with ⟨h1, _⟩ | ⟨g, off, h1, _⟩
  · exact Or.inl h1
  · exact Or.inr ⟨g, off, h1⟩

theorem strOf_nil : strOfNums [] = ByteArray.empty := rfl
theorem equal_zero (o1 o2 : Option Addr) (c1 c2 : Nat) (w : World) (h1 : o1 = none ∨ ∃ g off, o1 = some ⟨g, off, none⟩) (h2 : o2 = none ∨ ∃ g off, o2 = some ⟨g, off, none⟩) :
    Calls Ybaf.prog 8 #[.slice o1 0 c1, .slice o2 0 c2] w fun e w' => e = .returned (.bool true) ∧ w' = w := by
  rcases h1 with rfl | ⟨g1, f1, rfl⟩
  · have e1 := run_convert_bytes_nil (P := Ybaf.prog) w 23 5 Ybaf.underlying23 Ybaf.underlying5 0 c1 9 Ybaf.underlying9
    rcases h2 with rfl | ⟨g2, f2, rfl⟩
    · have e2 := run_convert_bytes_nil (P := Ybaf.prog) w 23 5 Ybaf.underlying23 Ybaf.underlying5 0 c2 9 Ybaf.underlying9
      go_enter Ybaf.func8, Ybaf.ntmps8
      go_wp2
      go_ret
      exact ⟨by simp, rfl⟩
    · have e2 := run_convert_bytes_arg (P := Ybaf.prog) w 23 5 Ybaf.underlying23 Ybaf.underlying5 g2 f2 0 c2 [] rfl (by omega) 9 Ybaf.underlying9
      rw [strOf_nil] at e2
      go_enter Ybaf.func8, Ybaf.ntmps8
      go_wp2
      go_ret
      exact ⟨by simp, rfl⟩
  · have e1 := run_convert_bytes_arg (P := Ybaf.prog) w 23 5 Ybaf.underlying23 Ybaf.underlying5 g1 f1 0 c1 [] rfl (by omega) 9 Ybaf.underlying9
    rw [strOf_nil] at e1
    rcases h2 with rfl | ⟨g2, f2, rfl⟩
    · have e2 := run_convert_bytes_nil (P := Ybaf.prog) w 23 5 Ybaf.underlying23 Ybaf.underlying5 0 c2 9 Ybaf.underlying9
      go_enter Ybaf.func8, Ybaf.ntmps8
      go_wp2
      go_ret
      exact ⟨by simp, rfl⟩
    · have e2 := run_convert_bytes_arg (P := Ybaf.prog) w 23 5 Ybaf.underlying23 Ybaf.underlying5 g2 f2 0 c2 [] rfl (by omega) 9 Ybaf.underlying9
      rw [strOf_nil] at e2
      go_enter Ybaf.func8, Ybaf.ntmps8
      go_wp2
      go_ret
      exact ⟨by simp, rfl⟩

theorem equal_any (o1 o2 : Option Addr) (n c1 c2 : Nat) (xs : List Int) (w : World) (hx : Src w o1 n 1 c1 (cu8 xs)) (hy : Src w o2 n 1 c2 (cu8 xs)) :
    Calls Ybaf.prog 8 #[.slice o1 n c1, .slice o2 n c2] w fun e w' => e = .returned (.bool true) ∧ w' = w := by
  by_cases h0 : 0 < n
  · exact equal_true o1 o2 n c1 c2 xs w h0 hx hy
  · have hn : n = 0 := by omega
    subst hn
    exact equal_zero o1 o2 c1 c2 w hx.plain hy.plain

theorem i64_or_nat (a b : Nat) (ha : a < 4294967296) (hb : b < 4294967296) : bits .or .i64 (a : Int) (b : Int) = ((a ||| b : Nat) : Int) := by
  have hx : a ||| b < 2 ^ 32 := Nat.or_lt_two_pow (by omega) (by omega)
  show IntKind.i64.wrap ((BitVec.ofInt 64 (a : Int) ||| BitVec.ofInt 64 (b : Int)).toNat : Int) = _
  rw [BitVec.toNat_or, ofInt_u64 a (by omega), ofInt_u64 b (by omega)]
  exact IntWalk.i64_in _ (by omega)
theorem or64a (x y : Int) (a0 : 0 ≤ x) (b0 : x < 256) (a1 : 0 ≤ y) (b1 : y < 256) : bits BinOp.or IntKind.i64 (x * 65536) (y * 256) = x * 65536 + y * 256 := by
  obtain ⟨n0, rfl⟩ := Int.eq_ofNat_of_zero_le a0
  obtain ⟨n1, rfl⟩ := Int.eq_ofNat_of_zero_le a1
  have e : ((n0 : Int) * 65536) = ((n0 * 65536 : Nat) : Int) := by omega
  have e2 : ((n1 : Int) * 256) = ((n1 * 256 : Nat) : Int) := by omega
  rw [e, e2, i64_or_nat (n0 * 65536) (n1 * 256) (by omega) (by omega), or_mul (n1 * 256) n0 16 65536 (by decide) (by omega)]
  omega
theorem or64b (x y : Int) (a0 : 0 ≤ x) (b0 : x < 65536) (a1 : 0 ≤ y) (b1 : y < 256) : bits BinOp.or IntKind.i64 (x * 256) y = x * 256 + y := by
  obtain ⟨n0, rfl⟩ := Int.eq_ofNat_of_zero_le a0
  obtain ⟨n1, rfl⟩ := Int.eq_ofNat_of_zero_le a1
  have e : ((n0 : Int) * 256) = ((n0 * 256 : Nat) : Int) := by omega
  rw [e, i64_or_nat (n0 * 256) n1 (by omega) (by omega), or_mul n1 n0 8 256 (by decide) (by omega)]
  omega
theorem Src.drewN {w : World} {ob : Option Addr} {m size c : Nat} {news : List Value} (h : Src w ob m size c news) (n : Nat) : Src (w.drewN n) ob m size c news := h
theorem grew_drewN (w : World) (n : Nat) : Grew w (w.drewN n) none none := grew_of_below (w' := w.drewN n) (w := w) ⟨rfl, rfl, rfl, Nat.le_refl _, fun _ _ => rfl⟩ none
theorem HelloAt.below {w w' : World} {hb : Nat} {h : HV} (H : HelloAt w hb h) (hbel : Below w.heap.size w w') : HelloAt w' hb h := H.grew (grew_of_below hbel none)

theorem Mid.good {w wr : World} {hb nU nE : Nat} {R S U : List Int} {es : List EX} {h : HV} (M : Mid w wr hb R (S.take 32) U (ded es) h) (F : Fit nU nE es) (hR : R.length = 32) (hU : U.length = nU) (hr : ∀ x ∈ U, 0 ≤ x ∧ x < 65536) (hE : es.length = nE) : HGood h := by
  obtain ⟨f1, f2, f3, f4⟩ := F
  have l1 := M.own.s.1
  rw [cu8_length] at l1
  have l1' := l1
  rw [M.eS] at l1'
  have l2 := M.own.u.1
  rw [cu16_length] at l2
  have l2' := l2
  rw [M.eU] at l2'
  have le := M.own.hello.e.length
  have lk := congrArg List.length M.ks
  simp only [List.length_map] at lk
  have hd := ded_len es
  have hfit : HFits h := by
    refine ⟨by simp at l1'; omega, by omega, by rw [M.eU]; exact hr, by omega, ?_, ?_⟩
    · intro x hx
      have : key x ∈ (ded es).map key := by rw [← M.ks]; exact List.mem_map.2 ⟨x, hx, rfl⟩
      obtain ⟨y, hy, e⟩ := List.mem_map.1 this
      have e2 : y.d = x.d := congrArg Prod.snd e
      rw [← e2]
      exact f3 y (ded_mem es y hy)
    · rw [encE_key, M.ks, ← encE_key]; omega
  refine ⟨hfit, by rw [M.eR]; exact hR, by omega, by omega, le, M.own.f, ?_⟩
  have hk2 := congrArg (List.map Prod.fst) M.ks
  simp only [List.map_map] at hk2
  have e1 : (Prod.fst ∘ key) = EX.ty := rfl
  rw [e1] at hk2
  rw [hk2]
  exact ded_nodup es

/-- The message's row, opened. -/
theorem msg_open {w : World} {base : Nat} {oa : Option Addr} {cap : Nat} {h : HV} (ho : w.ownsRow base 5 1 (.slice oa (4 + bodyLen h) cap) (4 + bodyLen h) (cu8 (msg h))) :
    ∃ g, oa = some ⟨g, 0, none⟩ ∧ 4 + bodyLen h ≤ cap ∧ cap ≤ maxLen ∧ w.cell? ⟨g, 0, none⟩ = some (.int .u8 1) ∧ w.cell? ⟨g, 1, none⟩ = some (.int .u8 ((bodyLen h : Int) / 65536)) ∧ w.cell? ⟨g, 2, none⟩ = some (.int .u8 ((bodyLen h : Int) / 256 % 256)) ∧ w.cell? ⟨g, 3, none⟩ = some (.int .u8 ((bodyLen h : Int) % 256)) ∧ Src w (some ⟨g, 4, none⟩) (bodyLen h) 1 (cap - 4) (cu8 (body h)) := by
  have hs := src_of_owns ho
  have hl : (body h).length = bodyLen h := by
    have := hs.1
    rw [cu8_length] at this
    simp [msg] at this
    omega
  rcases ho.2 with ⟨_, h0⟩ | ⟨g, cap', cur, hv, _, _, h1, h2, _, _⟩
  · omega
  · cases hv
    refine ⟨g, rfl, h1, h2, ?_, ?_, ?_, ?_, ?_⟩
    · simpa using hs.get8 (k := 0) (x := 1) rfl
    · simpa using hs.get8 (k := 1) rfl
    · simpa using hs.get8 (k := 2) rfl
    · simpa using hs.get8 (k := 3) rfl
    · have h3 := Src.back (ys := [1, (bodyLen h : Int) / 65536, (bodyLen h : Int) / 256 % 256, (bodyLen h : Int) % 256]) (zs := body h) (off2 := 4) (c2 := cap - 4) hs (fun _ => rfl)
      rw [hl] at h3
      exact h3
end Go.Proofs.YbulkjucFmt

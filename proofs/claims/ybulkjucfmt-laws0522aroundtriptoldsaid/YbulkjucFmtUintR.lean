import Derived.Test.YbulkjucFmtReader
import Derived.Laws.BitsAllLaws
namespace Go.Proofs.YbulkjucFmt
open Go.RowKit

theorem or_mul (a b i m : Nat) (hm : m = 2 ^ i) (h : a < m) : (b * m) ||| a = b * m + a := by
  subst hm
  rw [← Nat.shiftLeft_eq, Nat.shiftLeft_add_eq_or_of_lt h]
theorem or64 (x y : Int) (a0 : 0 ≤ x) (b0 : x < 65536) (a1 : 0 ≤ y) (b1 : y < 256) : bits BinOp.or IntKind.u64 (x * 256) y = x * 256 + y := by
  obtain ⟨n0, rfl⟩ := Int.eq_ofNat_of_zero_le a0
  obtain ⟨n1, rfl⟩ := Int.eq_ofNat_of_zero_le a1
  have e : ((n0 : Int) * 256) = ((n0 * 256 : Nat) : Int) := by omega
  rw [e, u64_or_nat (n0 * 256) n1 (by omega) (by omega), or_mul n1 n0 8 256 (by decide) (by omega)]
  omega
theorem or64_0 (y : Int) (a1 : 0 ≤ y) (b1 : y < 256) : bits BinOp.or IntKind.u64 0 y = y := by
  have := or64 0 y (by omega) (by omega) a1 b1
  simpa using this

theorem Src.get8 {w : World} {b off m c k : Nat} {U : List Int} {x : Int} (h : Src w (some ⟨b, off, none⟩) m 1 c (cu8 U)) (hx : U[k]? = some x) : w.cell? ⟨b, off + k, none⟩ = some (.int .u8 x) := by
  rcases h.2 with ⟨h1, _⟩ | ⟨b', off', h1, _, h2⟩
  · cases h1
  · cases h1
    exact h2 k _ (by simp [cu8, hx])

set_option maxHeartbeats 800000 in
theorem uintR1 (rb mb m : Nat) (a : Int) (zs : List Int) (w : World) (hR : RdAt w rb mb m ([a] ++ zs)) (h0 : 0 ≤ a) (h1 : a < 256) :
    Calls Ybaf.prog 26 #[.pointer (some ⟨rb, 0, none⟩), .int .i64 1] w fun e w' => e = .returned (.tuple #[.int .u64 a, .nilIface]) ∧ RdAt w' rb mb (m - 1) zs ∧ Grew w w' (some ⟨rb, 0, none⟩) (some ⟨rb, 0, none⟩) := by
  have H1 := bytes_any rb mb m 1 [a] zs w hR rfl
  have e1 := or64_0 a h0 h1
  clear hR
  go_enter Ybaf.func26, Ybaf.ntmps26
  go_wp2_with (go_at_call 27; refine Calls.mono (by exact H1) ?_; rintro e w1 ⟨off, rfl, hs1, hr1, hg1⟩; have c0 := hs1.get8 (k := 0) (x := a) rfl; rw [Nat.add_zero] at c0; have HR : Hid (RdAt w1 rb mb (m - 1) zs) := hr1; have HG : Hid (Grew w w1 (some ⟨rb, 0, none⟩) (some ⟨rb, 0, none⟩)) := hg1; clear hs1 hr1 hg1 H1)
  refine wp_loop_rounds 2 ?_
  rw [rounds_succ]
  go_wp2
  rw [rounds_succ]
  go_wp2
  go_ret2
  exact ⟨rfl, HR.out, HG.out⟩

set_option maxHeartbeats 800000 in
theorem uintR2 (rb mb m : Nat) (v : Int) (zs : List Int) (w : World) (hR : RdAt w rb mb m ([v / 256, v % 256] ++ zs)) (h0 : 0 ≤ v) (h1 : v < 65536) :
    Calls Ybaf.prog 26 #[.pointer (some ⟨rb, 0, none⟩), .int .i64 2] w fun e w' => e = .returned (.tuple #[.int .u64 v, .nilIface]) ∧ RdAt w' rb mb (m - 2) zs ∧ Grew w w' (some ⟨rb, 0, none⟩) (some ⟨rb, 0, none⟩) := by
  have H1 := bytes_any rb mb m 2 [v / 256, v % 256] zs w hR rfl
  obtain ⟨a, ha⟩ : ∃ a, a = v / 256 := ⟨_, rfl⟩
  obtain ⟨b, hb⟩ : ∃ b, b = v % 256 := ⟨_, rfl⟩
  have hv : Hid (v = a * 256 + b) := by show _ = _; omega
  have a0 : 0 ≤ a := by omega
  have a1 : a < 256 := by omega
  have b0 : 0 ≤ b := by omega
  have b1 : b < 256 := by omega
  rw [← ha, ← hb] at H1
  have e1 := or64_0 a a0 a1
  have e2 := or64 a b a0 (by omega) b0 b1
  clear hR ha hb
  go_enter Ybaf.func26, Ybaf.ntmps26
  go_wp2_with (go_at_call 27; refine Calls.mono (by exact H1) ?_; rintro e w1 ⟨off, rfl, hs1, hr1, hg1⟩; have c0 := hs1.get8 (k := 0) (x := a) rfl; rw [Nat.add_zero] at c0; have c1 := hs1.get8 (k := 1) (x := b) rfl; have HR : Hid (RdAt w1 rb mb (m - 2) zs) := hr1; have HG : Hid (Grew w w1 (some ⟨rb, 0, none⟩) (some ⟨rb, 0, none⟩)) := hg1; clear hs1 hr1 hg1 H1)
  refine wp_loop_rounds 3 ?_
  rw [rounds_succ]
  go_wp2
  rw [rounds_succ]
  go_wp2
  rw [rounds_succ]
  go_wp2
  rw [hv.out]
  go_ret2
  exact ⟨rfl, HR.out, HG.out⟩
end Go.Proofs.YbulkjucFmt

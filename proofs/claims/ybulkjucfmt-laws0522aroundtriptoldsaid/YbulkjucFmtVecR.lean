import Derived.Test.YbulkjucFmtUintR
import Derived.Test.YbulkjucFmtHello
namespace Go.Proofs.YbulkjucFmt
open Go.RowKit

set_option maxHeartbeats 800000 in
theorem vecR1 (rb mb m k : Nat) (ys zs : List Int) (w : World) (hR : RdAt w rb mb m ([(k : Int)] ++ (ys ++ zs))) (hk : ys.length = k) (h1 : k < 256) :
    Calls Ybaf.prog 21 #[.pointer (some ⟨rb, 0, none⟩), .int .i64 1] w fun e w' => ∃ off, e = .returned (.tuple #[.slice (some ⟨mb, off, none⟩) k k, .nilIface]) ∧ Src w' (some ⟨mb, off, none⟩) k 1 k (cu8 ys) ∧ RdAt w' rb mb (m - 1 - k) zs ∧ Grew w w' (some ⟨rb, 0, none⟩) (some ⟨rb, 0, none⟩) := by
  have H1 := uintR1 rb mb m (k : Int) (ys ++ zs) w hR (by omega) (by omega)
  have HK : Hid (ys.length = k) := hk
  clear hR hk
  go_enter Ybaf.func21, Ybaf.ntmps21
  go_wp2_with (first
    | (go_at_call 26; refine Calls.mono (by exact H1) ?_; rintro e w1 ⟨rfl, hr1, hg1⟩; have HR : Hid (RdAt w1 rb mb (m - 1) (ys ++ zs)) := hr1; have HG : Hid (Grew w w1 (some ⟨rb, 0, none⟩) (some ⟨rb, 0, none⟩)) := hg1; clear hr1 hg1 H1)
    | (go_at_call 27; refine Calls.mono (by exact bytes_any rb mb (m - 1) k ys zs w1 HR.out HK.out) ?_; rintro e w2 ⟨off, rfl, hs2, hr2, hg2⟩; have HS : Hid (Src w2 (some ⟨mb, off, none⟩) k 1 k (cu8 ys)) := hs2; have HR2 : Hid (RdAt w2 rb mb (m - 1 - k) zs) := hr2; have HG2 : Hid (Grew w1 w2 (some ⟨rb, 0, none⟩) (some ⟨rb, 0, none⟩)) := hg2; clear hs2 hr2 hg2))
  go_ret2
  exact ⟨off, rfl, HS.out, HR2.out, HG.out.trans HG2.out⟩

set_option maxHeartbeats 800000 in
theorem vecR2 (rb mb m k : Nat) (ys zs : List Int) (w : World) (hR : RdAt w rb mb m ([(k : Int) / 256, (k : Int) % 256] ++ (ys ++ zs))) (hk : ys.length = k) (h1 : k < 65536) :
    Calls Ybaf.prog 21 #[.pointer (some ⟨rb, 0, none⟩), .int .i64 2] w fun e w' => ∃ off, e = .returned (.tuple #[.slice (some ⟨mb, off, none⟩) k k, .nilIface]) ∧ Src w' (some ⟨mb, off, none⟩) k 1 k (cu8 ys) ∧ RdAt w' rb mb (m - 2 - k) zs ∧ Grew w w' (some ⟨rb, 0, none⟩) (some ⟨rb, 0, none⟩) := by
  have H1 := uintR2 rb mb m (k : Int) (ys ++ zs) w hR (by omega) (by omega)
  have HK : Hid (ys.length = k) := hk
  clear hR hk
  go_enter Ybaf.func21, Ybaf.ntmps21
  go_wp2_with (first
    | (go_at_call 26; refine Calls.mono (by exact H1) ?_; rintro e w1 ⟨rfl, hr1, hg1⟩; have HR : Hid (RdAt w1 rb mb (m - 2) (ys ++ zs)) := hr1; have HG : Hid (Grew w w1 (some ⟨rb, 0, none⟩) (some ⟨rb, 0, none⟩)) := hg1; clear hr1 hg1 H1)
    | (go_at_call 27; refine Calls.mono (by exact bytes_any rb mb (m - 2) k ys zs w1 HR.out HK.out) ?_; rintro e w2 ⟨off, rfl, hs2, hr2, hg2⟩; have HS : Hid (Src w2 (some ⟨mb, off, none⟩) k 1 k (cu8 ys)) := hs2; have HR2 : Hid (RdAt w2 rb mb (m - 2 - k) zs) := hr2; have HG2 : Hid (Grew w1 w2 (some ⟨rb, 0, none⟩) (some ⟨rb, 0, none⟩)) := hg2; clear hs2 hr2 hg2))
  go_ret2
  exact ⟨off, rfl, HS.out, HR2.out, HG.out.trans HG2.out⟩

/-- A slice in another block than the reader's cell stands over the reader's moves. -/
theorem Src.rd {w w' : World} {rb mb off m c : Nat} {news : List Value} {o2 : Option Addr} (h : Src w (some ⟨mb, off, none⟩) m 1 c news) (hg : Grew w w' (some ⟨rb, 0, none⟩) o2) (hne : rb ≠ mb) : Src w' (some ⟨mb, off, none⟩) m 1 c news :=
  h.grew hg fun k hk e => hne (by
    have h1 : mb = k := Option.some.inj hk
    have h2 : rb = k := Option.some.inj e
    omega)

set_option maxHeartbeats 800000 in
theorem startR (rb mb m k : Nat) (R S zs : List Int) (w : World) (hR : RdAt w rb mb m ([3, 3] ++ (R ++ ([(k : Int)] ++ (S ++ zs))))) (hRl : R.length = 32) (hk : S.length = k) (h1 : k ≤ 32) :
    Calls Ybaf.prog 20 #[.pointer (some ⟨rb, 0, none⟩)] w fun e w' => ∃ off off2, e = .returned (.tuple #[.int .u16 771, .slice (some ⟨mb, off, none⟩) 32 32, .slice (some ⟨mb, off2, none⟩) k k, .nilIface]) ∧ Src w' (some ⟨mb, off, none⟩) 32 1 32 (cu8 R) ∧ Src w' (some ⟨mb, off2, none⟩) k 1 k (cu8 S) ∧ RdAt w' rb mb (m - 2 - 32 - 1 - k) zs ∧ Grew w w' (some ⟨rb, 0, none⟩) (some ⟨rb, 0, none⟩) := by
  have hne : rb ≠ mb := by obtain ⟨_, _, _, _, _, _, h⟩ := hR; exact h
  have H1 := uintR2 rb mb m 771 (R ++ ([(k : Int)] ++ (S ++ zs))) w hR (by omega) (by omega)
  have HL : Hid (R.length = 32) := hRl
  have HK : Hid (S.length = k) := hk
  clear hR hk hRl
  go_enter Ybaf.func20, Ybaf.ntmps20
  go_wp2_with (first
    | (go_at_call 26; refine Calls.mono (by exact H1) ?_; rintro e w1 ⟨rfl, hr1, hg1⟩; have HR : Hid (RdAt w1 rb mb (m - 2) (R ++ ([(k : Int)] ++ (S ++ zs)))) := hr1; have HG : Hid (Grew w w1 (some ⟨rb, 0, none⟩) (some ⟨rb, 0, none⟩)) := hg1; clear hr1 hg1 H1)
    | (go_at_call 27; refine Calls.mono (by exact bytes_any rb mb (m - 2) 32 R _ w1 HR.out HL.out) ?_; rintro e w2 ⟨off, rfl, hs2, hr2, hg2⟩; have HS : Hid (Src w2 (some ⟨mb, off, none⟩) 32 1 32 (cu8 R)) := hs2; have HR2 : Hid (RdAt w2 rb mb (m - 2 - 32) ([(k : Int)] ++ (S ++ zs))) := hr2; have HG2 : Hid (Grew w1 w2 (some ⟨rb, 0, none⟩) (some ⟨rb, 0, none⟩)) := hg2; clear hs2 hr2 hg2)
    | (go_at_call 21; refine Calls.mono (by exact vecR1 rb mb (m - 2 - 32) k S zs w2 HR2.out HK.out (by omega)) ?_; rintro e w3 ⟨off2, rfl, hs3, hr3, hg3⟩; have HS3 : Hid (Src w3 (some ⟨mb, off2, none⟩) k 1 k (cu8 S)) := hs3; have HR3 : Hid (RdAt w3 rb mb (m - 2 - 32 - 1 - k) zs) := hr3; have HG3 : Hid (Grew w2 w3 (some ⟨rb, 0, none⟩) (some ⟨rb, 0, none⟩)) := hg3; clear hs3 hr3 hg3))
  go_returns
  exact ⟨off, off2, rfl, HS.out.rd HG3.out hne, HS3.out, HR3.out, (HG.out.trans HG2.out).trans HG3.out⟩
end Go.Proofs.YbulkjucFmt

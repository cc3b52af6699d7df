import Derived.Test.YbulkjucFmtParse
namespace Go.Proofs.YbulkjucFmt
open Go.RowKit

set_option maxHeartbeats 800000 in
theorem parse9 (mb off c : Nat) (h : HV) (w : World) (hs : Src w (some ⟨mb, off, none⟩) (bodyLen h) 1 c (cu8 (body h))) (hc : bodyLen h ≤ c) (hcm : c ≤ maxLen) (G : HGood h) :
    Calls Ybaf.prog 9 #[.slice (some ⟨mb, off, none⟩) (bodyLen h) c] w fun e w' => ∃ pb h', e = .returned (.tuple #[.pointer (some ⟨pb, 0, none⟩), .nilIface]) ∧ HelloAt w' pb h' ∧ HSame h h' ∧ Below w.heap.size w w' := by
  have H1 := parseR mb off c h w hs hc hcm G
  clear hs hc hcm G
  go_enter Ybaf.func9, Ybaf.ntmps9
  go_wp2_with (go_at_call 15; refine Calls.mono (by exact H1) ?_; rintro e w1 ⟨pb, h', rfl, h1, h2, h3⟩; have K1 : Hid (HelloAt w1 pb h') := h1; have K2 : Hid (HSame h h') := h2; have K3 : Hid (Below w.heap.size w w1) := h3; clear h1 h2 h3 H1)
  go_ret2
  exact ⟨pb, h', rfl, K1.out, K2.out, K3.out⟩
end Go.Proofs.YbulkjucFmt

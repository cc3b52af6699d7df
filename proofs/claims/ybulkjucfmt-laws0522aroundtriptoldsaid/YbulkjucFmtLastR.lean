import Derived.Test.YbulkjucFmtExtsR
namespace Go.Proofs.YbulkjucFmt
open Go.RowKit

set_option maxRecDepth 100000 in
set_option maxHeartbeats 1600000 in
theorem lastR (rb mb m EL : Nat) (es : List EX) (w : World) (hR : RdAt w rb mb m ([(EL : Int) / 256, (EL : Int) % 256] ++ (encE es ++ []))) (hEL : (encE es).length = EL) (hE : EL ≤ 65535) (hf : ∀ x ∈ es, 0 ≤ x.ty ∧ x.ty < 65536) (hd : ∀ x ∈ es, x.d.length ≤ 1024) (hn : es.length ≤ 256) (hnd : (es.map EX.ty).Nodup) :
    Calls Ybaf.prog 23 #[.pointer (some ⟨rb, 0, none⟩)] w fun e w' => ∃ w1 oE cE es', e = .returned (.tuple #[.slice oE es.length cE, .nilIface]) ∧ Grew w w1 (some ⟨rb, 0, none⟩) (some ⟨rb, 0, none⟩) ∧ Below w1.heap.size w1 w' ∧ w'.ownsRow w1.heap.size 36 2 (.slice oE es.length cE) es.length (ecells es') ∧ es'.map key = es.map key ∧ (∀ x ∈ es', ∃ off, x.ob = some ⟨mb, off, none⟩ ∧ Src w' x.ob x.d.length 1 x.c (cu8 x.d)) := by
  have hlen : m = 2 + EL := by
    obtain ⟨_, _, _, _, _, hs, _⟩ := hR
    have := hs.1
    rw [cu8_length] at this
    simp at this
    omega
  have H1 := vecR2 rb mb m EL (encE es) [] w hR hEL (by omega)
  have HF : Hid (∀ x ∈ es, 0 ≤ x.ty ∧ x.ty < 65536) := hf
  have HD : Hid (∀ x ∈ es, x.d.length ≤ 1024) := hd
  have HN : Hid ((es.map EX.ty).Nodup) := hnd
  have HEL : Hid ((encE es).length = EL) := hEL
  rw [show m - 2 - EL = 0 from by omega] at H1
  clear hR hf hd hnd hEL hlen
  go_enter Ybaf.func23, Ybaf.ntmps23
  go_wp2_with (first
    | (go_at_call 21; refine Calls.mono (by exact H1) ?_; rintro e w1 ⟨off, rfl, hs1, hr1, hg1⟩; have HS : Hid (Src w1 (some ⟨mb, off, none⟩) EL 1 EL (cu8 (encE es))) := hs1; have HG : Hid (Grew w w1 (some ⟨rb, 0, none⟩) (some ⟨rb, 0, none⟩)) := hg1; obtain ⟨ro, rc, hB, _, _, _, _⟩ := hr1; have cB := hB.cell; clear hs1 hg1 hB H1)
    | (go_at_call 28; refine Calls.mono (by exact extsR mb off EL es w1 HS.out HEL.out hE HF.out HD.out hn HN.out) ?_; rintro e w2 ⟨oE, cE, es', rfl, h1, h2, h3, h4⟩; have K1 : Hid (w2.ownsRow w1.heap.size 36 2 (.slice oE es.length cE) es.length (ecells es')) := h1; have K2 : Hid (es'.map key = es.map key) := h2; have K3 : Hid (∀ x ∈ es', ∃ off, x.ob = some ⟨mb, off, none⟩ ∧ Src w2 x.ob x.d.length 1 x.c (cu8 x.d)) := h3; have K4 : Hid (Below w1.heap.size w1 w2) := h4; clear h1 h2 h3 h4))
  go_ret2
  exact ⟨w1, oE, cE, es', rfl, HG.out, K4.out, K1.out, K2.out, K3.out⟩
end Go.Proofs.YbulkjucFmt

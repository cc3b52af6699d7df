import Derived.Test.YbulkjsmFmtBytes
namespace Go.Proofs.YbulkjsmFmt
open Go.RowKit

set_option maxHeartbeats 400000 in
theorem ber_any (tag : Int) (ad : Addr) (m c : Nat) (news : List Value) (w : World) (hm : 0 < m) (hm2 : m ≤ 200) (hl : news.length = m) (hc : LiesAt w ad news) (h1 : ∀ u ∈ news, u.oneCell' = true) :
    Calls Ybaf.prog 21 #[.slice none 0 0, .int .u8 tag, .slice (some ad) m c] w fun e w' => ∃ g cap, e = .returned (.slice (some ⟨g, 0, none⟩) (2 + m) cap) ∧
      w'.ownsRow w.heap.size 5 1 (.slice (some ⟨g, 0, none⟩) (2 + m) cap) (2 + m) (.int .u8 tag :: .int .u8 m :: news) ∧ Below w.heap.size w w' := by
  have HC : Hid (LiesAt w ad news) := hc
  have HL : Hid (news.length = m) := hl
  clear hc hl
  go_enter Ybaf.func21, Ybaf.ntmps21
  go_wp2_with (first
    | (at_builtin; refine app rfl (.tmp 7) (.tmp 12) (by rfl) w.heap.size (.slice none 0 0) 0 [] (by rfl) (World.ownsRow_nil _ _ _ _) ⟨w.heap.size, 0, none⟩ 2 2 [.int .u8 tag, .int .u8 m] (by rfl) (by rfl) (lies_new w 5 _) (one_ints2 _ _) (by omega) (by omega) (by simp) ?_; intro g1 cap1 w1 hown1 hg1 hat1 hlt1)
    | (at_builtin; refine app rfl (.tmp 13) (.tmp 14) (by rfl) w.heap.size _ 2 [.int .u8 tag, .int .u8 m] (by rfl) hown1 ad m c news (by rfl) HL.out ((HC.out.alloc _).grown hg1 (by simp [Value.ownBlock])) h1 hm (by omega) (by have := hg1.size; simp at this; omega) ?_; intro g2 cap2 w2 hown2 hg2 hat2 hlt2))
  go_ret
  refine ⟨g2, cap2, rfl, hown2, ?_⟩
  have hs1 := hg1.size
  simp at hs1
  exact (((Below.refl _ _).alloc (Nat.le_refl _) _).grown hg1 (by simp) (fun k hk => by simp [Value.ownBlock] at hk)).grown hg2 (by omega) (fun k hk => by simp [Value.ownBlock] at hk; subst hk; exact (owns_block_lt hown1).1)

set_option maxHeartbeats 400000 in
theorem subarg_any (ad : Addr) (m c : Nat) (news : List Value) (w : World) (hm : 0 < m) (hm2 : m ≤ 100) (hl : news.length = m) (hc : LiesAt w ad news) (h1 : ∀ u ∈ news, u.oneCell' = true) :
    Calls Ybaf.prog 14 #[.slice (some ad) m c] w fun e w' => ∃ g cap, e = .returned (.slice (some ⟨g, 0, none⟩) (4 + m) cap) ∧
      w'.ownsRow w.heap.size 5 1 (.slice (some ⟨g, 0, none⟩) (4 + m) cap) (4 + m) (.int .u8 48 :: .int .u8 (2 + m) :: .int .u8 4 :: .int .u8 m :: news) ∧ Below w.heap.size w w' := by
  have H1 := ber_any 4 ad m c news w hm (by omega) hl hc h1
  have HL : Hid (news.length = m) := hl
  clear hc hl
  go_enter Ybaf.func14, Ybaf.ntmps14
  go_wp2_with fail
  refine H1.mono ?_
  clear H1
  rintro e w1 ⟨g1, cap1, rfl, hown1, hb1⟩
  go_wp2_with fail
  refine (ber_any 48 ⟨g1, 0, none⟩ (2 + m) cap1 (.int .u8 4 :: .int .u8 m :: news) w1 (by omega) (by omega) (by have := HL.out; simp; omega) (lies_of_owns hown1) ?_).mono ?_
  · intro u hu
    simp at hu
    rcases hu with rfl | rfl | hu
    · rfl
    · rfl
    · exact h1 u hu
  rintro e w2 ⟨g2, cap2, rfl, hown2, hb2⟩
  rw [show 2 + (2 + m) = 4 + m from by omega] at hown2 ⊢
  go_wp2
  go_ret
  have e2 : ((2 + m : Nat) : Int) = 2 + (m : Int) := by omega
  rw [e2] at hown2
  exact ⟨g2, cap2, rfl, owns_base hown2 hb1.size, hb1.trans (hb2.mono hb1.size)⟩

set_option maxHeartbeats 400000 in
theorem comp_any (id op : Int) (ad : Addr) (m c : Nat) (news : List Value) (w : World) (hid : 0 ≤ id) (hid2 : id ≤ 127) (hm : 0 < m) (hm2 : m ≤ 200) (hl : news.length = m) (hc : LiesAt w ad news) (h1 : ∀ u ∈ news, u.oneCell' = true) :
    Calls Ybaf.prog 19 #[.int .i64 id, .int .u8 op, .slice (some ad) m c] w fun e w' => ∃ g cap, e = .returned (.slice (some ⟨g, 0, none⟩) (8 + m) cap) ∧
      w'.ownsRow w.heap.size 5 1 (.slice (some ⟨g, 0, none⟩) (8 + m) cap) (8 + m) ([.int .u8 161, .int .u8 (6 + m), .int .u8 2, .int .u8 1, .int .u8 id, .int .u8 2, .int .u8 1, .int .u8 op] ++ news) ∧ Below w.heap.size w w' := by
  have HC : Hid (LiesAt w ad news) := hc
  have HL : Hid (news.length = m) := hl
  clear hc hl
  go_enter Ybaf.func19, Ybaf.ntmps19
  go_wp2_with (first
    | (at_builtin; refine app rfl (.tmp 16) (.tmp 17) (by rfl) w.heap.size _ 8 [.int .u8 161, .int .u8 (6 + m), .int .u8 2, .int .u8 1, .int .u8 id, .int .u8 2, .int .u8 1, .int .u8 op] (by rfl) (owns_new w w.heap.size 5 _ 8 rfl (Nat.le_refl _) (by decide)) ad m c news (by rfl) HL.out (HC.out.alloc _) h1 hm (by omega) (by simp) ?_; intro g1 cap1 w1 hown1 hg1 hat1 hlt1))
  go_ret
  refine ⟨g1, cap1, rfl, hown1, ?_⟩
  exact ((Below.refl _ _).alloc (Nat.le_refl _) _).grown hg1 (by simp) (fun k hk => by simp [Value.ownBlock] at hk; omega)

/-- The first octet of the call reference. -/
def first (v : Int) (peer : Bool) : Int := if peer then bits .or .u8 (v / 256) 128 else v / 256

set_option maxHeartbeats 400000 in
theorem header_any (v mt : Int) (peer : Bool) (w : World) (h0 : 0 ≤ v) (h1 : v < 65536) :
    Calls Ybaf.prog 24 #[.agg #[.int .u16 v, .bool peer], .int .u8 mt] w fun e w' => e = .returned (.slice (some ⟨w.heap.size + 1, 0, none⟩) 5 5) ∧
      w' = (w.alloc (.cells #[.int .u16 v, .bool peer] 41)).alloc (.cells #[.int .u8 8, .int .u8 2, .int .u8 (first v peer), .int .u8 (v % 256), .int .u8 mt] 5) := by
  cases peer
  · go_enter Ybaf.func24, Ybaf.ntmps24
    go_wp2
    go_ret
    exact ⟨rfl, rfl⟩
  · go_enter Ybaf.func24, Ybaf.ntmps24
    go_wp2
    go_ret
    exact ⟨rfl, rfl⟩

set_option maxHeartbeats 400000 in
theorem equal_true (g1 n c1 g2 c2 : Nat) (xs : List Int) (w : World) (hl1 : xs.length = n) (hx : LiesAt w ⟨g1, 0, none⟩ (cu8 xs)) (hy : LiesAt w ⟨g2, 0, none⟩ (cu8 xs)) :
    Calls Ybaf.prog 8 #[.slice (some ⟨g1, 0, none⟩) n c1, .slice (some ⟨g2, 0, none⟩) n c2] w fun e w' => e = .returned (.bool true) ∧ w' = w := by
  have e1 := run_convert_bytes_arg (P := Ybaf.prog) w 23 5 Ybaf.underlying23 Ybaf.underlying5 g1 0 n c1 xs hl1 (lies_ints hx hl1) 9 Ybaf.underlying9
  have e2 := run_convert_bytes_arg (P := Ybaf.prog) w 23 5 Ybaf.underlying23 Ybaf.underlying5 g2 0 n c2 xs hl1 (lies_ints hy hl1) 9 Ybaf.underlying9
  clear hx hy hl1
  go_enter Ybaf.func8, Ybaf.ntmps8
  go_wp2
  go_ret
  exact ⟨by simp, rfl⟩
end Go.Proofs.YbulkjsmFmt

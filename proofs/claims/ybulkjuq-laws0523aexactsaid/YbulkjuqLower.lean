/-
  BYTES THAT ARE CLONED AND LOWERED.
-/
import Derived.Test.YbulkjuqRows
import Derived.WalkKit
import Derived.WalkSpells
import Derived.WalkLawsBesides
import Derived.Handy
import Derived.Deep.AppendLies
import Derived.Maps.AppendAt
import Derived.Maps.Range
import Derived.Laws.AppendOwnNone
import Derived.Lib.AppendStr
import Derived.OwnWalk
import Derived.Below
namespace Go.Proofs.Ybulkjuq
open Go.RowKit Go.Lib

theorem info5 : (Yba.prog.info? 5).map (fun i => (i.zero, i.size, i.bytes)) = some (some (.int .u8 0), 1, 1) := by kernel_rfl

/-- The letter, lowered. -/
def low (c : Int) : Int := if 65 ≤ c ∧ c ≤ 90 then c + 32 else c

theorem lower13 (c : Int) (w : World) (h0 : 0 ≤ c) (h1 : c < 256) :
    Calls Yba.prog 13 #[.int .u8 c] w fun e w' => e = .returned (.int .u8 (low c)) ∧ w' = w := by
  by_cases ha : 65 ≤ c
  · by_cases hb : c ≤ 90
    · go_enter Yba.func13, Yba.ntmps13
      go_wp2
      go_ret
      refine ⟨?_, rfl⟩
      unfold low
      rw [if_pos ⟨ha, hb⟩]
      go_num
    · go_enter Yba.func13, Yba.ntmps13
      go_wp2
      go_ret
      refine ⟨?_, rfl⟩
      unfold low
      rw [if_neg (by omega)]
      rfl
  · go_enter Yba.func13, Yba.ntmps13
    go_wp2
    go_ret
    refine ⟨?_, rfl⟩
    unfold low
    rw [if_neg (by omega)]
    rfl

theorem lower9 (c : Int) (w : World) (h0 : 0 ≤ c) (h1 : c < 256) :
    Calls Yba.prog 9 #[.int .u8 c] w fun e w' => e = .returned (.int .u8 (low c)) ∧ w' = w := by
  by_cases ha : 65 ≤ c
  · by_cases hb : c ≤ 90
    · have hd : c - 65 < 26 := by omega
      go_enter Yba.func9, Yba.ntmps9
      go_wp2
      go_ret
      refine ⟨?_, rfl⟩
      unfold low
      rw [if_pos ⟨ha, hb⟩]
      rfl
    · have hd : ¬ c - 65 < 26 := by omega
      go_enter Yba.func9, Yba.ntmps9
      go_wp2
      go_ret
      refine ⟨?_, rfl⟩
      unfold low
      rw [if_neg (by omega)]
      rfl
  · have hw : IntKind.u8.wrap (c - 65) = c + 191 := by rw [IntKind.wrap_u8]; omega
    go_enter Yba.func9, Yba.ntmps9
    go_wp2
    go_ret
    refine ⟨?_, rfl⟩
    unfold low
    rw [if_neg (by omega)]
    rfl
end Go.Proofs.Ybulkjuq

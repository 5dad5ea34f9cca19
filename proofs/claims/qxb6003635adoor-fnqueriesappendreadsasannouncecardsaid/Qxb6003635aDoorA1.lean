import Derived.Test.Qxb6003635aDoorRows
import Derived.WalkKit
import Derived.WalkSpells
import Derived.WalkLawsBesides
import Derived.Deep.QuietTactic
import Derived.BigQuiet
namespace Go.Proofs.Qxb6003635aDoor
open Go.RowKit

/-- The cells from (g, o) on hold the bytes l. -/
def RowB (w : World) (g o : Nat) (l : List UInt8) : Prop := ∀ j, j < l.length → w.cell? ⟨g, o + j, none⟩ = some (.int .u8 ((l.getD j 0).toNat : Int))

set_option maxHeartbeats 400000 in
theorem is_eq (g o c : Nat) (s : ByteArray) (w : World) (hc : RowB w g o s.data.toList) (hs : s.size ≤ 100000000) :
    Calls Tryd.prog 17 #[.slice (some ⟨g, o, none⟩) s.size c, .string s] w fun e w' => e = .returned (.bool true) ∧ ∃ m, w' = w.drewN m := by
  go_enter Tryd.func17, Tryd.ntmps17
  go_wp2
  go_loopw [5] (fun i wr => ∃ k m : Nat, k ≤ s.size ∧ i = .int .i64 k ∧ wr = w.drewN m) (fun i _ => s.size - (intOf i).toNat)
  case atStart => exact ⟨0, 0, Nat.zero_le _, rfl, rfl⟩
  case round =>
    obtain ⟨k, m, hk, rfl, rfl⟩ := hrel
    by_cases hlt : k < s.size
    · have hck : w.cell? ⟨g, o + k, none⟩ = some (.int .u8 (s[k].toNat : Int)) := by
        have := hc k (by simpa using hlt)
        rw [this]
        simp [List.getD, hlt]
        rfl
      go_wp2
      go_quiet (fail)
      go_wp2
      go_roundw
      case rel => exact ⟨k + 1, m + nq, by omega, by go_num, rfl⟩
      case measure => simp [intOf]; omega
    · go_wp2
      go_ret
      exact ⟨rfl, m, rfl⟩
end Go.Proofs.Qxb6003635aDoor

import Derived.Test.Qxb6608659aRows
import Derived.Test.Qxb6608659aPlain
import Derived.WalkKit
import Derived.WalkSpells
namespace Go.Proofs.Qxb6608659a
open Go.RowKit

theorem ret_bool {a b : Bool} (h : a = b) : Ending.returned (.bool a) = .returned (.bool b) := by rw [h]

set_option maxHeartbeats 1000000 in
theorem key_any (s : ByteArray) (w : World) (hs : s.size ≤ maxLen) :
    Calls Try.prog 7 #[.string s] w fun e w' => e = .returned (.bool (keyAll s.data.toList)) ∧ w' = w := by
  unfold maxLen at hs
  go_enter Try.func7, Try.ntmps7
  go_wp2
  go_loop [3] (fun i => ∃ k : Nat, k ≤ s.size ∧ i = .int .i64 k ∧ Hid (keyAll (s.data.toList.take k) = true)) (fun i => s.size - (intOf i).toNat)
  case atStart => exact ⟨0, Nat.zero_le _, rfl, rfl⟩
  case round =>
    obtain ⟨k, hk, rfl, HS⟩ := hrel
    by_cases hlt : k < s.size
    · go_wp2
      all_goals
        first
        | (go_ret; exact ⟨ret_bool (keyAll_bad hlt (keyN_false (by simp at *; omega))).symm, rfl⟩)
        | (go_round
           case rel => exact ⟨k + 1, by omega, by go_num, keyAll_step hlt HS.out (keyN_true (by simp at *; omega))⟩
           case measure => simp [intOf]; omega)
    · go_wp2
      go_ret
      exact ⟨ret_bool (keyAll_full hlt HS.out).symm, rfl⟩
#print axioms key_any
end Go.Proofs.Qxb6608659a

import Derived.Test.Qxb6608659aRows
import Derived.WalkKit
import Derived.OpenShut
import Derived.WalkSpells
import Derived.Deep.QuietTactic
import Derived.BigQuiet
import Derived.Test.Qxb6608659aKey
import Derived.Test.Qxb6608659aDec
namespace Go.Proofs.Qxb6608659a.fnInKeyAlphabetSplitsAtAnyCut
open Go.RowKit

theorem bytes5 (s : ByteArray) (i n : Int) (w : World) (hs : s.size ≤ maxLen) :
    Calls Try.prog 5 #[.string s, .int .i64 i, .int .i64 n] w fun e w' => e = .returned (.bool (decide (s.size ≤ 1048576))) ∧ w' = w := by
  unfold maxLen at hs
  by_cases h : s.size ≤ 1048576
  · go_enter Try.func5, Try.ntmps5
    go_wp2
    go_ret
    exact ⟨by simp [h], rfl⟩
  · go_enter Try.func5, Try.ntmps5
    go_wp2
    go_ret
    exact ⟨by simp [h], rfl⟩

theorem whole_eq (s : ByteArray) (k : Nat) : keyAll s.data.toList = (keyAll (List.take k s.data.toList) && keyAll (List.take (s.size - k) (List.drop k s.data.toList))) := by
  rw [List.take_of_length_le (l := List.drop k s.data.toList) (by simp), ← keyAll_append, List.take_append_drop]

theorem with_eq (a b d : List UInt8) (hd : keyAll d = true) : keyAll (a ++ (d ++ b)) = (keyAll a && keyAll b) := by
  rw [keyAll_append, keyAll_append, hd]
  simp

theorem grown_drewN {W w' : World} (h : Grown W w') (n : Nat) : Grown W (w'.drewN n) := h

set_option maxHeartbeats 1000000 in
theorem walk (a0 : ByteArray) (a1 : Int) (a2 : Int) (w0 : a0.size ≤ maxLen) (w1 : (Lit.int .i64 a1).wf = true) (w2 : (Lit.int .i64 a2).wf = true) (w : World) :
    Calls Try.prog 3 #[.string a0, .int .i64 a1, .int .i64 a2] w fun e w' => e = .returned (.bool true) ∧ Grown w w' := by
  have b1 := bounds_i64 w1
  have b2 := bounds_i64 w2
  by_cases hs : a0.size ≤ 1048576
  · by_cases hi : 0 ≤ a1 ∧ a1 ≤ a0.size
    · obtain ⟨h0, h1⟩ := hi
      obtain ⟨k, rfl⟩ := Int.eq_ofNat_of_zero_le h0
      clear w1 w2
      have hd1 : decide ((k : Int) < 0) = false := by simp
      have hd2 : decide (a0.size < k) = false := by simp; omega
      have hwh := whole_eq a0 k
      generalize hx : keyAll (List.take k a0.data.toList) = x at hwh
      generalize hy : keyAll (List.take (a0.size - k) (List.drop k a0.data.toList)) = y at hwh
      cases x <;> cases y
      all_goals
        simp only [Bool.and_self, Bool.and_true, Bool.and_false] at hwh
        go_enter Try.func3, Try.ntmps3
        go_wp2_with fail
        refine (bytes5 _ _ _ _ w0).mono ?_
        rintro e w' ⟨rfl, rfl⟩
        go_wp2_with fail
        refine (dec_any _ _ b2.1 b2.2).mono ?_
        rintro e w1 ⟨d, rfl, hd, hds, hg⟩
        have hwi := with_eq (List.take k a0.data.toList) (List.take (a0.size - k) (List.drop k a0.data.toList)) d.data.toList hd
        rw [hx, hy] at hwi
        simp only [Bool.and_self, Bool.and_true, Bool.and_false] at hwi
        go_wp2_with fail
        refine (key_any _ _ (by unfold maxLen; omega)).mono ?_
        rintro e w2 ⟨rfl, rfl⟩
        go_wp2_with fail
        refine (key_any _ _ (by unfold maxLen; omega)).mono ?_
        rintro e w3 ⟨rfl, rfl⟩
        go_wp2_with fail
        refine (key_any _ _ (by unfold maxLen; simp; omega)).mono ?_
        rintro e w4 ⟨rfl, rfl⟩
        go_wp2_with fail
        refine (key_any _ _ (by unfold maxLen; simp; omega)).mono ?_
        rintro e w5 ⟨rfl, rfl⟩
        go_wp2_with fail
        go_quiet ((go_at_call 7; exact Calls.quiet_of_same (key_any _ _ (by unfold maxLen; simp; omega))))
        go_wp2
        go_ret
        exact ⟨rfl, grown_drewN hg _⟩
    · clear w1 w2
      by_cases h0 : a1 < 0
      · go_enter Try.func3, Try.ntmps3
        go_wp2_with fail
        refine (bytes5 _ _ _ _ w0).mono ?_
        rintro e w' ⟨rfl, rfl⟩
        go_wp2_with fail
        go_ret
        exact ⟨rfl, Grown.refl _⟩
      · have h1 : (a0.size : Int) < a1 := by omega
        go_enter Try.func3, Try.ntmps3
        go_wp2_with fail
        refine (bytes5 _ _ _ _ w0).mono ?_
        rintro e w' ⟨rfl, rfl⟩
        go_wp2_with fail
        go_ret
        exact ⟨rfl, Grown.refl _⟩
  · clear w1 w2
    go_enter Try.func3, Try.ntmps3
    go_wp2_with fail
    refine (bytes5 _ _ _ _ w0).mono ?_
    rintro e w' ⟨rfl, rfl⟩
    go_wp2_with fail
    go_ret
    exact ⟨rfl, Grown.refl _⟩
#print axioms walk
end Go.Proofs.Qxb6608659a.fnInKeyAlphabetSplitsAtAnyCut

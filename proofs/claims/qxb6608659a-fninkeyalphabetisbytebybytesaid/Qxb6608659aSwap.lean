import Derived.Test.Qxb6608659aRows
import Derived.Test.Qxb6608659aPlain
import Derived.WalkKit
import Derived.WalkSpells
import Derived.Laws.BytesArg
import Derived.Deep.OwnRows
namespace Go.Proofs.Qxb6608659a
open Go.RowKit

/-- The case of an ASCII letter flipped. -/
def swapN (n : Int) : Int := if 97 ≤ n ∧ n ≤ 122 then n - 32 else if 65 ≤ n ∧ n ≤ 90 then n + 32 else n

theorem swapN_range (n : Int) (h0 : 0 ≤ n) (h1 : n ≤ 255) : 0 ≤ swapN n ∧ swapN n ≤ 255 := by
  unfold swapN; split <;> (try split) <;> omega

theorem keyN_swap (n : Int) : keyN (swapN n) = keyN n := by
  rw [Bool.eq_iff_iff, keyN_iff, keyN_iff]
  unfold swapN
  split
  · omega
  · split <;> omega

theorem ret_u8 {a b : Int} (h : a = b) : Ending.returned (.int .u8 a) = .returned (.int .u8 b) := by rw [h]

set_option maxHeartbeats 400000 in
theorem swap_any (n : Int) (w : World) (h0 : 0 ≤ n) (h1 : n ≤ 255) :
    Calls Try.prog 9 #[.int .u8 n] w fun e w' => e = .returned (.int .u8 (swapN n)) ∧ w' = w := by
  by_cases ha : 97 ≤ n ∧ n ≤ 122
  · have hr : swapN n = n - 32 := by unfold swapN; rw [if_pos ha]
    obtain ⟨ha1, ha2⟩ := ha
    have HR : Hid (swapN n = n - 32) := hr
    clear hr
    go_enter Try.func9, Try.ntmps9
    go_wp2
    go_ret
    exact ⟨ret_u8 HR.out.symm, rfl⟩
  · by_cases hb : 65 ≤ n ∧ n ≤ 90
    · have HR : Hid (swapN n = n + 32) := by unfold Hid swapN; rw [if_neg ha, if_pos hb]
      obtain ⟨ha1, ha2⟩ := hb
      have ha3 : ¬ 97 ≤ n := by omega
      go_enter Try.func9, Try.ntmps9
      go_wp2
      go_ret
      exact ⟨ret_u8 HR.out.symm, rfl⟩
    · have HR : Hid (swapN n = n) := by unfold Hid swapN; rw [if_neg ha, if_neg hb]
      go_enter Try.func9, Try.ntmps9
      go_wp2
      all_goals first
        | (exfalso; omega)
        | (go_ret; exact ⟨ret_u8 HR.out.symm, rfl⟩)

/-- How many numbers below k a key may hold. -/
def cntN : Nat → Nat
  | 0 => 0
  | k + 1 => cntN k + if keyN (k : Int) = true then 1 else 0

theorem cntN_le : ∀ k, cntN k ≤ k
  | 0 => Nat.le_refl _
  | k + 1 => by have := cntN_le k; unfold cntN; split <;> omega

theorem cntN_yes {k : Nat} (h : keyN (k : Int) = true) : cntN (k + 1) = cntN k + 1 := by simp [cntN, h]
theorem cntN_no {k : Nat} (h : keyN (k : Int) = false) : cntN (k + 1) = cntN k := by simp [cntN, h]

theorem cntN_all : cntN 256 = 66 := by decide +kernel

theorem key_one (v : Int) (h0 : 0 ≤ v) (h1 : v ≤ 255) : keyAll (strOfNums [v]).data.toList = keyN v := by
  rw [strOfNums_data]
  simp [keyAll, UInt8.toNat_ofNat']
  congr 1
  omega

theorem conv25 (w : World) (v : Int) :
    (convert 26 9 (.slice (some ⟨w.heap.size, 0, none⟩) 1 1)).run Try.prog (w.alloc (.cells #[.int .u8 v] 25)) = .ok (.string (strOfNums [v])) (w.alloc (.cells #[.int .u8 v] 25)) := by
  refine run_convert_bytes_arg _ 26 5 Try.underlying26 Try.underlying5 w.heap.size 0 1 1 [v] rfl ?_ 9 Try.underlying9
  intro i hi
  have e : i = 0 := by omega
  subst e
  rw [World.cell?_alloc_at (hn := rfl)]
  simp

#print axioms swap_any
end Go.Proofs.Qxb6608659a

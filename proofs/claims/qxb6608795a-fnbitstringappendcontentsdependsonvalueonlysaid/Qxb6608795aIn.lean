import Derived.Test.Qxb6608795aApp0
import Derived.OpenShut
import Derived.Deep.QuietTactic
import Derived.BigQuiet
namespace Go.Proofs.Qxb6608795a
open Go.RowKit

set_option maxHeartbeats 400000 in
theorem bytes5 (a0 : Option Addr) (len0 cap0 : Nat) (i : Int) (a2 : Option Addr) (len2 cap2 : Nat) (w : World) (h0 : len0 ≤ maxLen) (h2 : len2 ≤ maxLen) :
    Calls Try.prog 5 #[.slice a0 len0 cap0, .int .i64 i, .slice a2 len2 cap2] w fun e w' => e = .returned (.bool (decide (len0 + len2 ≤ 1048576))) ∧ w' = w := by
  unfold maxLen at h0 h2
  by_cases c0 : len0 ≤ 1048576
  · by_cases c2 : len2 ≤ 1048576
    · by_cases c : len0 + len2 ≤ 1048576
      · go_enter Try.func5, Try.ntmps5
        go_wp2
        go_ret
        exact ⟨by simp [c], rfl⟩
      · go_enter Try.func5, Try.ntmps5
        go_wp2
        go_ret
        exact ⟨by simp [c], rfl⟩
    · have c : ¬ len0 + len2 ≤ 1048576 := by omega
      go_enter Try.func5, Try.ntmps5
      go_wp2
      go_ret
      exact ⟨by simp [c], rfl⟩
  · have c : ¬ len0 + len2 ≤ 1048576 := by omega
    go_enter Try.func5, Try.ntmps5
    go_wp2
    go_ret
    exact ⟨by simp [c], rfl⟩

/-- WHAT THE WALK IS TOLD OF A SLICE OF INTEGERS THAT CAME IN: it is nil; or it leads to a row of 'cap' cells, the numbers 'zs' (the first 'len' are its elements, the rest its spare room), each fitting its kind. -/
def IsRow (k : IntKind) (w : World) (a : Option Addr) (len cap : Nat) (zs : List Int) : Prop :=
  (a = none ∧ len = 0 ∧ cap = 0 ∧ zs = []) ∨
  ∃ x, a = some x ∧ len ≤ cap ∧ cap ≤ maxLen ∧ zs.length = cap ∧ (∀ i, i < zs.length → w.cell? (x.add i) = some (.int k (zs.getD i 0))) ∧ ∀ n ∈ zs, (Lit.int k n).wf = true

theorem rd_of_row {w : World} {a : Option Addr} {len cap : Nat} {zs : List Int} (h : IsRow .u8 w a len cap zs) :
    ∃ xs, Rd w a len xs ∧ (∀ x ∈ xs, 0 ≤ x ∧ x ≤ 255) ∧ (a = none → len = 0 ∧ cap = 0) ∧ len ≤ cap ∧ len ≤ maxLen := by
  rcases h with ⟨rfl, rfl, rfl, rfl⟩ | ⟨x, rfl, hlc, hcm, hz, hc, hwf⟩
  · exact ⟨[], ⟨rfl, fun i hi => absurd hi (Nat.not_lt_zero i)⟩, (fun x hx => by cases hx), fun _ => ⟨rfl, rfl⟩, Nat.le_refl _, Nat.zero_le _⟩
  · refine ⟨zs.take len, ⟨by simp; omega, fun i hi => ?_⟩, fun y hy => ?_, (fun h => by cases h), hlc, Nat.le_trans hlc hcm⟩
    · obtain ⟨b, off, rfl, hcc⟩ := ints_at hc (by omega)
      have hci := hc i (by omega)
      rw [Addr.add_lit] at hci
      refine ⟨b, off, rfl, World.block_lt_of_cell? w _ hci, ?_⟩
      rw [hci]
      simp [List.getD_eq_getElem?_getD, hi]
    · exact bounds_u8 (hwf y (List.mem_of_mem_take hy))

end Go.Proofs.Qxb6608795a

import Derived.Test.Qxb6608900aTo
namespace Go.Proofs.Qxb6608900a
open Go.RowKit

/-- What the law's first loop knows after j rounds: f: the first error's place (or len), l: the last one's (or -1). -/
def Scan (ps : List Pr) (len j f : Nat) (l : Int) : Prop :=
  (f = len ∨ f < j) ∧ -1 ≤ l ∧ l < j ∧ (∀ k, k ≤ j → hasE (cut ps 0 k) = decide ((f : Int) < (k : Int))) ∧ (∀ k, k ≤ j → hasE (cut ps k j) = decide ((k : Int) ≤ l))

theorem cut_zero (ps : List Pr) (k : Nat) : cut ps 0 k = ps.take k := by simp [cut]

theorem scan_zero (ps : List Pr) (len : Nat) : Scan ps len 0 len (-1) := by
  refine ⟨Or.inl rfl, by omega, by omega, fun k hk => ?_, fun k hk => ?_⟩
  · obtain rfl : k = 0 := by omega
    simp [cut, hasE]
  · obtain rfl : k = 0 := by omega
    simp [cut, hasE]

theorem hasE_cut_succ (ps : List Pr) (k j : Nat) (h1 : k ≤ j) (h2 : j < ps.length) : hasE (cut ps k (j + 1)) = (hasE (cut ps k j) || ((ps.getD j pr0).2.2.1 == 0)) := by
  rw [cut_succ ps k j h1 h2, hasE_append]
  simp [hasE]

theorem scan_no {ps : List Pr} {len j f : Nat} {l : Int} (h : Scan ps len j f l) (hp : ps.length = len) (hj : j < len) (he : ((ps.getD j pr0).2.2.1 == 0) = false) : Scan ps len (j + 1) f l := by
  obtain ⟨h1, h2, h3, h4, h5⟩ := h
  refine ⟨by omega, h2, by omega, fun k hk => ?_, fun k hk => ?_⟩
  · by_cases hkj : k ≤ j
    · exact h4 k hkj
    · obtain rfl : k = j + 1 := by omega
      rw [hasE_cut_succ ps 0 j (by omega) (by omega), he, h4 j (Nat.le_refl _), Bool.or_false]
      exact decide_eq_decide.2 (by omega)
  · by_cases hkj : k ≤ j
    · rw [hasE_cut_succ ps k j hkj (by omega), he, h5 k hkj, Bool.or_false]
    · obtain rfl : k = j + 1 := by omega
      rw [cut_self]
      symm
      exact decide_eq_false (by omega)

theorem scan_yes {ps : List Pr} {len j f f' : Nat} {l : Int} (h : Scan ps len j f l) (hp : ps.length = len) (hj : j < len) (he : ((ps.getD j pr0).2.2.1 == 0) = true) (hf : (f = len ∧ f' = j) ∨ (f ≠ len ∧ f' = f)) : Scan ps len (j + 1) f' (j : Int) := by
  obtain ⟨h1, h2, h3, h4, h5⟩ := h
  refine ⟨by omega, by omega, by omega, fun k hk => ?_, fun k hk => ?_⟩
  · by_cases hkj : k ≤ j
    · rw [h4 k hkj]
      exact decide_eq_decide.2 (by omega)
    · obtain rfl : k = j + 1 := by omega
      rw [hasE_cut_succ ps 0 j (by omega) (by omega), he, Bool.or_true]
      symm
      exact decide_eq_true (by omega)
  · by_cases hkj : k ≤ j
    · rw [hasE_cut_succ ps k j hkj (by omega), he, Bool.or_true]
      symm
      exact decide_eq_true (by omega)
    · obtain rfl : k = j + 1 := by omega
      rw [cut_self]
      symm
      exact decide_eq_false (by omega)

theorem cut_whole (ps : List Pr) (k len : Nat) (hp : ps.length = len) : hasE (cut ps 0 len) = (hasE (cut ps 0 k) || hasE (cut ps k len)) := by
  rw [← hasE_append]
  congr 1
  unfold cut
  rw [List.drop_zero, Nat.sub_zero, Nat.sub_zero, ← hp, List.take_length, List.take_of_length_le (l := ps.drop k) (by simp), List.take_append_drop]

theorem to9_zero (a : Option Addr) (len cap : Nat) (ps : List Pr) (j : Nat) (w : World) (hr : RdP w a len ps) (hnil : a = none → len = 0) (hlen : len ≤ 1048576) (hj : j ≤ len) :
    Calls Try.prog 9 #[.slice a len cap, .int .i64 0, .int .i64 (j : Int)] w (ToEnd (cut ps 0 j) j w) := to9 a len cap ps 0 j w hr hnil hlen (Nat.zero_le _) hj

#print axioms scan_yes
end Go.Proofs.Qxb6608900a

/- Plain mathematics of the seat b6608659a: no Go in sight. -/
namespace Go.Proofs.Qxb6608659a

/-- May a key hold this byte? (the byte as a number) -/
def keyN (n : Int) : Bool :=
  decide ((97 ≤ n ∧ n ≤ 122) ∨ (65 ≤ n ∧ n ≤ 90) ∨ (48 ≤ n ∧ n ≤ 57) ∨ n = 58 ∨ n = 95 ∨ n = 46 ∨ n = 45)

def keyAll (l : List UInt8) : Bool := l.all fun c => keyN (c.toNat : Int)

theorem keyN_true {n : Int} (h : (97 ≤ n ∧ n ≤ 122) ∨ (65 ≤ n ∧ n ≤ 90) ∨ (48 ≤ n ∧ n ≤ 57) ∨ n = 58 ∨ n = 95 ∨ n = 46 ∨ n = 45) : keyN n = true := by
  unfold keyN; exact decide_eq_true h

theorem keyN_false {n : Int} (h : ¬ ((97 ≤ n ∧ n ≤ 122) ∨ (65 ≤ n ∧ n ≤ 90) ∨ (48 ≤ n ∧ n ≤ 57) ∨ n = 58 ∨ n = 95 ∨ n = 46 ∨ n = 45)) : keyN n = false := by
  unfold keyN; exact decide_eq_false h

theorem keyN_iff {n : Int} : keyN n = true ↔ ((97 ≤ n ∧ n ≤ 122) ∨ (65 ≤ n ∧ n ≤ 90) ∨ (48 ≤ n ∧ n ≤ 57) ∨ n = 58 ∨ n = 95 ∨ n = 46 ∨ n = 45) := by
  unfold keyN; exact decide_eq_true_iff

theorem keyAll_append (a b : List UInt8) : keyAll (a ++ b) = (keyAll a && keyAll b) := by
  unfold keyAll; exact List.all_append

theorem take_snoc (s : ByteArray) (k : Nat) (h : k < s.size) : s.data.toList.take (k + 1) = s.data.toList.take k ++ [s[k]] := by
  rw [List.take_succ_eq_append_getElem (by simpa using h)]; rfl

/-- One more good byte: the part up to it stays good. -/
theorem keyAll_step {s : ByteArray} {k : Nat} (h : k < s.size) (hp : keyAll (s.data.toList.take k) = true) (hc : keyN (s[k].toNat : Int) = true) : keyAll (s.data.toList.take (k + 1)) = true := by
  rw [take_snoc s k h, keyAll_append, hp]
  simp [keyAll, hc]

/-- A bad byte: the whole is bad. -/
theorem keyAll_bad {s : ByteArray} {k : Nat} (h : k < s.size) (hc : keyN (s[k].toNat : Int) = false) : keyAll s.data.toList = false := by
  have e : s.data.toList = s.data.toList.take (k + 1) ++ s.data.toList.drop (k + 1) := (List.take_append_drop _ _).symm
  rw [e, take_snoc s k h, keyAll_append, keyAll_append]
  simp [keyAll, hc]

theorem keyAll_full {s : ByteArray} {k : Nat} (h : ¬ k < s.size) (hp : keyAll (s.data.toList.take k) = true) : keyAll s.data.toList = true := by
  rw [List.take_of_length_le (by simp; omega)] at hp; exact hp

end Go.Proofs.Qxb6608659a

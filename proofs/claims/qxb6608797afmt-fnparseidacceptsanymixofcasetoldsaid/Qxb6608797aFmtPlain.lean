/- Plain mathematics of the seat b6608797aF: hex digits. No Go in sight. -/
namespace Go.Proofs.Qxb6608797aFmt

/-- The digit of d, in lower case. -/
def dig (d : Int) : Int := if d < 10 then 48 + d else 87 + d

/-- Two digits a byte. -/
def hexL : List Int → List Int
  | [] => []
  | x :: xs => dig (x / 16) :: dig (x % 16) :: hexL xs

theorem hexL_len : ∀ xs : List Int, (hexL xs).length = 2 * xs.length
  | [] => rfl
  | x :: xs => by simp [hexL, hexL_len xs]; omega

theorem hexL_append : ∀ xs ys : List Int, hexL (xs ++ ys) = hexL xs ++ hexL ys
  | [], ys => rfl
  | x :: xs, ys => by simp [hexL, hexL_append xs ys]

/-- What has been written after k bytes, over ys. -/
def encTo (xs ys : List Int) (k : Nat) : List Int := hexL (xs.take k) ++ ys.drop (2 * k)

theorem encTo_len (xs ys : List Int) (n k : Nat) (h : xs.length = n) (hy : ys.length = 2 * n) (hk : k ≤ n) : (encTo xs ys k).length = 2 * n := by
  simp [encTo, hexL_len]; omega

theorem encTo_zero (xs ys : List Int) : encTo xs ys 0 = ys := by simp [encTo, hexL]

theorem encTo_full (xs ys : List Int) (n : Nat) (h : xs.length = n) (hy : ys.length = 2 * n) : encTo xs ys n = hexL xs := by
  simp [encTo, ← h, List.drop_eq_nil_of_le (show ys.length ≤ 2 * xs.length by omega)]

theorem encTo_step (xs ys : List Int) (n k : Nat) (h : xs.length = n) (hy : ys.length = 2 * n) (hk : k < n) :
    ((encTo xs ys k).set (2 * k) (dig (xs.getD k 0 / 16))).set (2 * k + 1) (dig (xs.getD k 0 % 16)) = encTo xs ys (k + 1) := by
  unfold encTo
  have hl : (hexL (xs.take k)).length = 2 * k := by rw [hexL_len]; simp; omega
  have e : xs.getD k 0 = xs[k]'(by omega) := by rw [List.getD_eq_getElem?_getD, List.getElem?_eq_getElem (by omega), Option.getD_some]
  have e2 : ys.drop (2 * k) = ys[2 * k]'(by omega) :: ys[2 * k + 1]'(by omega) :: ys.drop (2 * (k + 1)) := by
    rw [List.drop_eq_getElem_cons (by omega), List.drop_eq_getElem_cons (by omega)]
    rfl
  rw [e2, List.set_append_right _ _ (by omega), List.set_append_right _ _ (by omega), hl, Nat.sub_self, show 2 * k + 1 - 2 * k = 1 by omega,
    e, List.take_succ_eq_append_getElem (by omega), hexL_append, List.append_assoc]
  simp [hexL]

end Go.Proofs.Qxb6608797aFmt

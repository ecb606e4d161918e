import Derived.Test.Qxb6608797aFmtParse
import Derived.ChangeKeysEq
import Derived.Laws.StructEq
namespace Go.Proofs.Qxb6608797aFmt
open Go.RowKit

/-! ### plain: the digits read back -/

theorem hexL_at : ∀ (xs : List Int) (k : Nat), k < xs.length → (hexL xs).getD (2 * k) 0 = dig (xs.getD k 0 / 16) ∧ (hexL xs).getD (2 * k + 1) 0 = dig (xs.getD k 0 % 16)
  | [], k, h => by simp at h
  | x :: xs, 0, _ => by simp [hexL]
  | x :: xs, k + 1, h => by
    have := hexL_at xs k (by simpa using h)
    simp only [hexL, List.getD_cons_succ, show 2 * (k + 1) = 2 * k + 1 + 1 by omega]
    exact this

theorem dig_range (d : Int) (h0 : 0 ≤ d) (h1 : d < 16) : (48 ≤ dig d ∧ dig d ≤ 57) ∨ (97 ≤ dig d ∧ dig d ≤ 102) := by
  unfold dig; split <;> omega

theorem unhex_dig_fin : ∀ d : Fin 16, unhex (dig (d.val : Int)).toNat = d.val := by decide +kernel
theorem unhex_dig (d : Int) (h0 : 0 ≤ d) (h1 : d < 16) : (unhex (dig d).toNat : Int) = d := by
  obtain ⟨k, rfl⟩ := Int.eq_ofNat_of_zero_le h0
  have := unhex_dig_fin ⟨k, by omega⟩
  simp only [] at this
  rw [this]

theorem nums_at (zs : List Int) (i : Nat) (h : i < (strOfNums zs).size) (hr : 0 ≤ zs.getD i 0 ∧ zs.getD i 0 ≤ 255) : (((strOfNums zs)[i]'h).toNat : Int) = zs.getD i 0 := by
  have hl : i < zs.length := by rw [strOfNums_size] at h; exact h
  have e : (strOfNums zs)[i]'h = UInt8.ofNat (zs.getD i 0).toNat := by
    show ((zs.map fun n => UInt8.ofNat n.toNat).toArray)[i]'(by simpa using hl) = _
    simp [List.getD_eq_getElem?_getD, List.getElem?_eq_getElem hl]
  rw [e, UInt8.toNat_ofNat']
  omega

/-! ### two arrays of bytes that are one -/

theorem eqItems_same (d : Nat) (xs : List Int) (w : World) : ∀ is : List Nat, (∀ i ∈ is, i < xs.length) →
    (Op.eqItems (d + 1) 5 1 (xs.map (Value.int .u8)).toArray (xs.map (Value.int .u8)).toArray is).run Tryf.prog w = .ok true w
  | [], _ => by simp [Op.eqItems]
  | i :: is, h => by
    have hi : i < xs.length := h i (by simp)
    have hp : (part 5 (xs.map (Value.int .u8)).toArray (i * 1)).run Tryf.prog w = .ok (.int .u8 xs[i]) w := by
      unfold part
      simp [isAgg, run_underlying Tryf.underlying5, hi]
    have hq := run_equalIn_int (P := Tryf.prog) w d 5 .u8 .u8 xs[i] xs[i] Tryf.underlying5
    simp only [Op.eqItems, Sem.run_bind, hp, Result.andThen_ok, hq, beq_self_eq_true, Bool.not_true, Bool.false_eq_true, if_false]
    exact eqItems_same d xs w is (fun j hj => h j (by simp [hj]))

theorem Tryf.cells5 : Tryf.prog.cellsOf 5 = 1 := by kernel_rfl

theorem eq22 (xs : List Int) (hx : xs.length = 32) (w : World) : (Op.equalIn 10000 22 (.agg (xs.map (Value.int .u8)).toArray) (.agg (xs.map (Value.int .u8)).toArray)).run Tryf.prog w = .ok true w := by
  obtain ⟨i0, hi, _⟩ := info_parts Tryf.info5
  rw [run_equalIn_array w 9999 _ _ Tryf.underlying22 hi, Tryf.cells5]
  exact eqItems_same 9998 xs w _ (fun i h => by rw [hx]; simpa using h)

theorem Tryf.size22 : (Tryf.prog.info? 22).map (·.size) = some 32 := by kernel_rfl
theorem size_nums22 (xs : List Int) (h : xs.length = 32) : (Tryf.prog.info? 22).map (·.size) = some ((xs.map (Value.int .u8)).toArray).size := by
  rw [Tryf.size22]; simp [h]

/-- What the text of an ID is, for the walk. -/
theorem hex_facts (xs : List Int) (hx : xs.length = 32) (hr : ∀ x ∈ xs, 0 ≤ x ∧ x ≤ 255) : ∀ k, (hk : k < 32) →
    (((strOfNums (hexL xs))[2 * k]'(by rw [strOfNums_size, hexL_len]; omega)).toNat : Int) = dig (xs.getD k 0 / 16) ∧ (((strOfNums (hexL xs))[2 * k + 1]'(by rw [strOfNums_size, hexL_len]; omega)).toNat : Int) = dig (xs.getD k 0 % 16) ∧
      0 ≤ xs.getD k 0 ∧ xs.getD k 0 ≤ 255 := by
  intro k hk
  have hxr : 0 ≤ xs.getD k 0 ∧ xs.getD k 0 ≤ 255 := by
    rw [List.getD_eq_getElem?_getD, List.getElem?_eq_getElem (by omega), Option.getD_some]
    exact hr _ (List.getElem_mem _)
  have ha := hexL_at xs k (by omega)
  have d1 := dig_range (xs.getD k 0 / 16) (by omega) (by omega)
  have d2 := dig_range (xs.getD k 0 % 16) (by omega) (by omega)
  refine ⟨?_, ?_, hxr⟩
  · rw [nums_at _ _ _ (by rw [ha.1]; omega), ha.1]
  · rw [nums_at _ _ _ (by rw [ha.2]; omega), ha.2]

theorem hex_size (xs : List Int) (hx : xs.length = 32) : (strOfNums (hexL xs)).size = 64 := by rw [strOfNums_size, hexL_len, hx]

/-- Each byte of the text is a digit in lower case. -/
theorem hex_low (xs : List Int) (hx : xs.length = 32) (hr : ∀ x ∈ xs, 0 ≤ x ∧ x ≤ 255) (j : Nat) (hj : j < (strOfNums (hexL xs)).size) :
    (48 ≤ (((strOfNums (hexL xs))[j]'hj).toNat : Int) ∧ (((strOfNums (hexL xs))[j]'hj).toNat : Int) ≤ 57) ∨ (97 ≤ (((strOfNums (hexL xs))[j]'hj).toNat : Int) ∧ (((strOfNums (hexL xs))[j]'hj).toNat : Int) ≤ 102) := by
  have hs := hex_size xs hx
  obtain ⟨h1, h2, h3⟩ := hex_facts xs hx hr (j / 2) (by omega)
  rcases Nat.mod_two_eq_zero_or_one j with hm | hm
  · have e : 2 * (j / 2) = j := by omega
    simp only [e] at h1
    rw [h1]
    exact dig_range _ (by omega) (by omega)
  · have e : 2 * (j / 2) + 1 = j := by omega
    simp only [e] at h2
    rw [h2]
    exact dig_range _ (by omega) (by omega)

/-- The text reads back: ParseID's condition. -/
theorem hex_reads (xs : List Int) (hx : xs.length = 32) (hr : ∀ x ∈ xs, 0 ≤ x ∧ x ≤ 255) : ∀ k, k < 32 → (h1 : 2 * k < (strOfNums (hexL xs)).size) → (h2 : 2 * k + 1 < (strOfNums (hexL xs)).size) →
    unhex ((strOfNums (hexL xs))[2 * k]'h1).toNat < 16 ∧ unhex ((strOfNums (hexL xs))[2 * k + 1]'h2).toNat < 16 ∧ 16 * (unhex ((strOfNums (hexL xs))[2 * k]'h1).toNat : Int) + (unhex ((strOfNums (hexL xs))[2 * k + 1]'h2).toNat : Int) = xs.getD k 0 := by
  intro k hk h1 h2
  obtain ⟨e1, e2, h3⟩ := hex_facts xs hx hr k hk
  have u1 := unhex_dig (xs.getD k 0 / 16) (by omega) (by omega)
  have u2 := unhex_dig (xs.getD k 0 % 16) (by omega) (by omega)
  rw [← e1, Int.toNat_natCast] at u1
  rw [← e2, Int.toNat_natCast] at u2
  omega

#print axioms eq22
#print axioms hex_low
end Go.Proofs.Qxb6608797aFmt

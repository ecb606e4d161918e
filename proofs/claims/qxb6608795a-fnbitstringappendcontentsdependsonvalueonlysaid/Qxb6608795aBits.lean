import Derived.Test.Qxb6608795aApp0
namespace Go.Proofs.Qxb6608795a
open Go.RowKit

/-- Bit p of the octet x, as the model reckons it. -/
def bitv (x : Int) (p : Nat) : Int := bits BinOp.and IntKind.u8 (x / 2 ^ p) 1

theorem bit_clr_fin : ∀ z : Fin 256, ∀ u p : Fin 8, bits BinOp.and IntKind.u8 (bits BinOp.andNot IntKind.u8 (z.val : Int) ((2 ^ u.val - 1) % 256) / 2 ^ p.val) 1 = if u.val ≤ p.val then bits BinOp.and IntKind.u8 ((z.val : Int) / 2 ^ p.val) 1 else 0 := by decide +kernel

theorem bit_clr (z : Int) (u p : Nat) (hz : 0 ≤ z ∧ z ≤ 255) (hu : u < 8) (hp : p < 8) : bitv (clr z u) p = if u ≤ p then bitv z p else 0 := by
  obtain ⟨k, rfl⟩ := Int.eq_ofNat_of_zero_le hz.1
  exact bit_clr_fin ⟨k, by omega⟩ ⟨u, hu⟩ ⟨p, hp⟩

theorem bit_zero_fin : ∀ p : Fin 8, bits BinOp.and IntKind.u8 ((0 : Int) / 2 ^ p.val) 1 = 0 := by decide +kernel
theorem bit_zero (p : Nat) (hp : p < 8) : bitv 0 p = 0 := bit_zero_fin ⟨p, hp⟩

theorem clr_range (z : Int) (u : Nat) (hz : 0 ≤ z ∧ z ≤ 255) (hu : u < 8) : 0 ≤ clr z u ∧ clr z u ≤ 255 := by
  obtain ⟨k, rfl⟩ := Int.eq_ofNat_of_zero_le hz.1
  rw [clr_eq k u (by omega) hu]
  omega

theorem body_at (vs : List Int) (n q : Nat) (hq : q < n) : (body vs n).getD q 0 = if q < vs.length then vs.getD q 0 else 0 := by
  unfold body
  simp only [List.getD_eq_getElem?_getD]
  by_cases h : q < vs.length
  · rw [if_pos h, List.getElem?_append_left (by simp; omega), List.getElem?_take, if_pos hq]
  · rw [if_neg h, List.getElem?_append_right (by simp; omega)]
    simp [List.getElem?_replicate]
    split <;> rfl

theorem octs_at (vs : List Int) (n u q : Nat) (hq : q < n) : (octs vs n u).getD q 0 = if q = n - 1 then clr ((body vs n).getD q 0) u else (body vs n).getD q 0 := by
  unfold octs
  by_cases h : q = n - 1
  · subst h
    rw [if_pos rfl]
    simp only [List.getD_eq_getElem?_getD]
    rw [List.getElem?_set_self (by rw [body_len]; omega)]
    rfl
  · rw [if_neg h]
    simp only [List.getD_eq_getElem?_getD]
    rw [List.getElem?_set_ne (by omega)]

theorem octs_len (vs : List Int) (n u : Nat) : (octs vs n u).length = n := by unfold octs; rw [List.length_set, body_len]

theorem octs_range (vs : List Int) (n u q : Nat) (h : ∀ x ∈ vs, 0 ≤ x ∧ x ≤ 255) (hu : u < 8) (hq : q < n) : 0 ≤ (octs vs n u).getD q 0 ∧ (octs vs n u).getD q 0 ≤ 255 := by
  rw [octs_at vs n u q hq]
  split
  · exact clr_range _ _ (body_range vs n h q) hu
  · exact body_range vs n h q

/-- A bit of the value. -/
theorem bit_in (vs : List Int) (n u l i : Nat) (h : ∀ x ∈ vs, 0 ≤ x ∧ x ≤ 255) (hu : u < 8) (hlu : (l : Int) + (u : Int) = 8 * (n : Int)) (hi : i < 8 * n) (hl : i < l) (hq : i / 8 < vs.length) :
    bitv ((octs vs n u).getD (i / 8) 0) (7 - i % 8) = bitv (vs.getD (i / 8) 0) (7 - i % 8) := by
  rw [octs_at vs n u (i / 8) (by omega)]
  have hb := body_range vs n h (i / 8)
  split
  · rw [bit_clr _ _ _ hb hu (by omega), if_pos (by omega), body_at vs n (i / 8) (by omega), if_pos hq]
  · rw [body_at vs n (i / 8) (by omega), if_pos hq]

/-- A bit past it. -/
theorem bit_out (vs : List Int) (n u l i : Nat) (h : ∀ x ∈ vs, 0 ≤ x ∧ x ≤ 255) (hu : u < 8) (hlu : (l : Int) + (u : Int) = 8 * (n : Int)) (hi : i < 8 * n) (hn : ¬ (i < l ∧ i / 8 < vs.length)) :
    bitv ((octs vs n u).getD (i / 8) 0) (7 - i % 8) = 0 := by
  rw [octs_at vs n u (i / 8) (by omega)]
  have hb := body_range vs n h (i / 8)
  split
  · rw [bit_clr _ _ _ hb hu (by omega)]
    split
    · rw [body_at vs n (i / 8) (by omega), if_neg (by omega)]
      exact bit_zero _ (by omega)
    · rfl
  · rw [body_at vs n (i / 8) (by omega), if_neg (by omega)]
    exact bit_zero _ (by omega)

#print axioms bit_out
end Go.Proofs.Qxb6608795a

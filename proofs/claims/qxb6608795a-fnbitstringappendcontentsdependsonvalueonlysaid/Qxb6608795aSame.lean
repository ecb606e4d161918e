import Derived.Test.Qxb6608795aIn
import Derived.Test.Qxb6608795aBits
namespace Go.Proofs.Qxb6608795a
open Go.RowKit

set_option maxHeartbeats 1000000 in
/-- zzSameBytes at two slices that read alike: true. -/
theorem same_any (a : Option Addr) (len cap : Nat) (b : Option Addr) (cap' : Nat) (xs : List Int) (w : World) (ha : Rd w a len xs) (hb : Rd w b len xs) (hlen : len ≤ 4194304) :
    Calls Try.prog 9 #[.slice a len cap, .slice b len cap'] w fun e w' => e = .returned (.bool true) ∧ ∃ q, w' = w.drewN q := by
  have HA : Hid (Rd w a len xs) := ha
  have HB : Hid (Rd w b len xs) := hb
  clear ha hb
  go_enter Try.func9, Try.ntmps9
  go_wp2
  go_loopw [5] (fun c wr => ∃ (k q : Nat), k ≤ len ∧ c = .int .i64 (k : Int) ∧ wr = w.drewN q) (fun c _ => len - (intOf c).toNat)
  case atStart => exact ⟨0, 0, Nat.zero_le _, rfl, rfl⟩
  case round =>
    obtain ⟨k, q, hk, rfl, rfl⟩ := hrel
    by_cases hlt : k < len
    · obtain ⟨b1, o1, rfl, _, hc⟩ := HA.out.lt (by omega)
      have hck := hc k hlt
      obtain ⟨b2, o2, rfl, _, hd⟩ := HB.out.lt (by omega)
      have hdk := hd k hlt
      generalize xs.getD k 0 = z at *
      clear hc hd
      go_wp2_with fail
      go_quiet (fail)
      go_wp2_with fail
      go_roundw
      case rel => exact ⟨k + 1, _, by omega, by go_num, rfl⟩
      case measure => simp [intOf]; omega
    · go_wp2_with fail
      go_ret
      exact ⟨rfl, _, rfl⟩

/-! ### plain: the other slice -/

theorem body_self (ys : List Int) (n : Nat) (h : ys.length = n) : body ys n = ys := by
  unfold body
  rw [List.take_of_length_le (by omega), h, Nat.sub_self]
  simp

theorem octs_body (vs : List Int) (n u : Nat) : octs (body vs n) n u = octs vs n u := by
  unfold octs
  rw [body_self _ n (body_len vs n)]

theorem octs_more (ys ex : List Int) (n u : Nat) (h : ys.length = n) : octs (ys ++ ex) n u = octs ys n u := by
  have e : body (ys ++ ex) n = body ys n := by
    unfold body
    rw [List.take_append_of_le_length (by omega), show n - (ys ++ ex).length = 0 by simp; omega, show n - ys.length = 0 by omega]
  unfold octs
  rw [e]

/-- Turning the last octet alone, where its upper bits stay. -/
theorem octs_last (ys : List Int) (n u : Nat) (y : Int) (h : ys.length = n) (hn : 1 ≤ n) (hc : clr y u = clr (ys.getD (n - 1) 0) u) : octs (ys.set (n - 1) y) n u = octs ys n u := by
  unfold octs
  rw [body_self _ n (by simpa using h), body_self ys n h]
  have e : (ys.set (n - 1) y).getD (n - 1) 0 = y := by
    simp only [List.getD_eq_getElem?_getD]
    rw [List.getElem?_set_self (by omega)]
    rfl
  rw [e, List.set_set, hc]

/-- The copy so far. -/
theorem cp2_step (xs : List Int) (n k : Nat) (hk : k < n) (hx : k < xs.length) : (cp xs n k).set k (xs.getD k 0) = cp xs n (k + 1) := by
  unfold cp
  have hl : (xs.take k).length = k := by simp; omega
  rw [List.set_append_right _ _ (by omega), hl, Nat.sub_self]
  obtain ⟨m, hm⟩ : ∃ m, n - k = m + 1 := ⟨n - k - 1, by omega⟩
  rw [hm, show n - (k + 1) = m by omega, List.replicate_succ, List.set_cons_zero]
  have e : xs.getD k 0 = xs[k]'(by omega) := by rw [List.getD_eq_getElem?_getD, List.getElem?_eq_getElem (by omega), Option.getD_some]
  rw [e, List.take_succ_eq_append_getElem (by omega), List.append_assoc]
  rfl

theorem cp2_len (xs : List Int) (n k : Nat) (hk : k ≤ n) (hx : k ≤ xs.length) : (cp xs n k).length = n := by simp [cp]; omega

theorem cp2_end (xs : List Int) (n k : Nat) (hk : k ≤ n) (hx : k ≤ xs.length) (hn : ¬ (k < n ∧ k < xs.length)) : cp xs n k = body xs n :=
  body_eq xs n k hk hx (by omega)

theorem clr_or_fin : ∀ y : Fin 256, ∀ u p : Fin 8, p.val < u.val → clr (bits BinOp.or IntKind.u8 (y.val : Int) (2 ^ p.val % 256)) u.val = clr (y.val : Int) u.val ∧ 0 ≤ bits BinOp.or IntKind.u8 (y.val : Int) (2 ^ p.val % 256) ∧ bits BinOp.or IntKind.u8 (y.val : Int) (2 ^ p.val % 256) ≤ 255 := by
  unfold clr; decide +kernel

theorem clr_or (y : Int) (u p : Nat) (hy : 0 ≤ y ∧ y ≤ 255) (hu : u < 8) (hp : p < u) : clr (bits BinOp.or IntKind.u8 y (2 ^ p % 256)) u = clr y u ∧ 0 ≤ bits BinOp.or IntKind.u8 y (2 ^ p % 256) ∧ bits BinOp.or IntKind.u8 y (2 ^ p % 256) ≤ 255 := by
  obtain ⟨k, rfl⟩ := Int.eq_ofNat_of_zero_le hy.1
  exact clr_or_fin ⟨k, by omega⟩ ⟨u, hu⟩ ⟨p, by omega⟩ hp

theorem alt_step (ys vs : List Int) (n u j : Nat) (y y' : Int) (hyl : ys.length = n) (hn : 1 ≤ n) (hj8 : j / 8 = n - 1) (hy : ys.getD (n - 1) 0 = y) (hc : clr y' u = clr y u ∧ 0 ≤ y' ∧ y' ≤ 255) (ho : octs ys n u = octs vs n u) :
    (ys.set (j / 8) y').length = n ∧ (0 ≤ (ys.set (j / 8) y').getD (n - 1) 0 ∧ (ys.set (j / 8) y').getD (n - 1) 0 ≤ 255) ∧ octs (ys.set (j / 8) y') n u = octs vs n u := by
  rw [hj8]
  have e : (ys.set (n - 1) y').getD (n - 1) 0 = y' := by
    simp only [List.getD_eq_getElem?_getD]
    rw [List.getElem?_set_self (by omega)]
    rfl
  refine ⟨by simpa using hyl, by rw [e]; exact hc.2, ?_⟩
  rw [octs_last ys n u y' hyl hn (by rw [hy]; exact hc.1), ho]

#print axioms same_any
#print axioms clr_or
end Go.Proofs.Qxb6608795a

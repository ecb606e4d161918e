import Derived.Test.Qxb6608795aRows
import Derived.WalkKit
import Derived.WalkSpells
import Derived.Deep.OwnRows
namespace Go.Proofs.Qxb6608795a
open Go.RowKit

theorem Try.info5 : (Try.prog.info? 5).map (fun i => (i.zero, i.size, i.bytes)) = some (some (.int .u8 0), 1, 1) := by kernel_rfl

/-- The slice with address 'a' and length 'len' reads as the numbers xs, in a block that is there. -/
def Rd (w : World) (a : Option Addr) (len : Nat) (xs : List Int) : Prop :=
  xs.length = len ∧ ∀ i, i < len → ∃ b off, a = some ⟨b, off, none⟩ ∧ b < w.heap.size ∧ w.cell? ⟨b, off + i, none⟩ = some (.int .u8 (xs.getD i 0))

theorem Rd.lt {w : World} {a : Option Addr} {len : Nat} {xs : List Int} (h : Rd w a len xs) (hl : 0 < len) : ∃ b off, a = some ⟨b, off, none⟩ ∧ b < w.heap.size ∧ ∀ i, i < len → w.cell? ⟨b, off + i, none⟩ = some (.int .u8 (xs.getD i 0)) := by
  obtain ⟨b, off, rfl, hb, _⟩ := h.2 0 hl
  refine ⟨b, off, rfl, hb, fun i hi => ?_⟩
  obtain ⟨b', off', e, _, hc⟩ := h.2 i hi
  simp only [Option.some.injEq, Addr.mk.injEq, and_true] at e
  obtain ⟨rfl, rfl⟩ := e
  exact hc

/-- What was there before reads on. -/
theorem Rd.below {w w' : World} {a : Option Addr} {len : Nat} {xs : List Int} (h : Rd w a len xs) (hb : Below w.heap.size w w') : Rd w' a len xs := by
  refine ⟨h.1, fun i hi => ?_⟩
  obtain ⟨b, off, e, hlt, hc⟩ := h.2 i hi
  exact ⟨b, off, e, Nat.lt_of_lt_of_le hlt hb.size, (hb.cell (p := ⟨b, off + i, none⟩) hlt).trans hc⟩

/-- The copy so far. -/
def cp (xs : List Int) (n k : Nat) : List Int := xs.take k ++ List.replicate (n - k) 0

theorem cp_len (xs : List Int) (n k : Nat) (h : xs.length = n) (hk : k ≤ n) : (cp xs n k).length = n := by
  simp [cp]; omega

theorem cp_zero (xs : List Int) (n : Nat) : cp xs n 0 = List.replicate n 0 := by simp [cp]

theorem cp_full (xs : List Int) (n : Nat) (h : xs.length = n) : cp xs n n = xs := by simp [cp, ← h]

theorem cp_step (xs : List Int) (n k : Nat) (h : xs.length = n) (hk : k < n) : (cp xs n k).set k (xs.getD k 0) = cp xs n (k + 1) := by
  unfold cp
  have hl : (xs.take k).length = k := by simp; omega
  rw [List.set_append_right _ _ (by omega), hl, Nat.sub_self]
  obtain ⟨m, hm⟩ : ∃ m, n - k = m + 1 := ⟨n - k - 1, by omega⟩
  rw [hm, show n - (k + 1) = m by omega, List.replicate_succ, List.set_cons_zero]
  have e : xs.getD k 0 = xs[k]'(by omega) := by rw [List.getD_eq_getElem?_getD, List.getElem?_eq_getElem (by omega), Option.getD_some]
  rw [e, List.take_succ_eq_append_getElem (by omega), List.append_assoc]
  rfl

theorem made_eq (n : Nat) : madeCells #[.int .u8 0] n = ((List.replicate n (0 : Int)).map (Value.int .u8)).toArray := by
  apply Array.ext_getElem?
  intro i
  simp only [madeCells, List.getElem?_toArray, List.map_replicate]
  by_cases h : i < n
  · simp [h, Nat.mod_one]
  · simp [h]

theorem rd_alloc (w : World) (xs : List Int) : Rd (w.alloc (.cells (xs.map (Value.int .u8)).toArray 5)) (some ⟨w.heap.size, 0, none⟩) xs.length xs := by
  refine ⟨rfl, fun i hi => ⟨w.heap.size, 0, rfl, by simp, ?_⟩⟩
  rw [World.cell?_alloc_at (hn := rfl), Nat.zero_add, List.getElem?_toArray, List.getElem?_map]
  simp [List.getD_eq_getElem?_getD, List.getElem?_eq_getElem hi]

set_option maxHeartbeats 1000000 in
/-- zzCloneBytes: a copy in new memory, of full capacity (nil for nil); nothing old has turned. -/
theorem clone_any (a : Option Addr) (len cap : Nat) (xs : List Int) (w : World) (hr : Rd w a len xs) (hlen : len ≤ 1048576) (hnil : a = none → len = 0 ∧ cap = 0) :
    Calls Try.prog 6 #[.slice a len cap] w fun e w' => ∃ a', e = .returned (.slice a' len len) ∧ Rd w' a' len xs ∧ (a' = none → len = 0) ∧ Below w.heap.size w w' := by
  have hq : ∀ (w : World) (a : Option Addr) (n c n' c' : Nat), (binOp .eql 22 (.slice a n c) (.slice none n' c')).run Try.prog w = .ok (.bool a.isNone) w := fun w a n c n' c' => Lib.run_eql_slice_nil w _ _ a n c n' c' Try.underlying22
  cases ha : a with
  | none =>
    subst ha
    obtain ⟨rfl, rfl⟩ := hnil rfl
    clear hnil
    have HR : Hid (Rd w none 0 xs) := hr
    clear hr
    go_enter Try.func6, Try.ntmps6
    go_wp2
    go_ret
    exact ⟨none, rfl, HR.out, by simp, Below.refl _ _⟩
  | some x =>
    subst ha
    clear hnil
    have hxl : xs.length = len := hr.1
    have hmk := run_make_row' (P := Try.prog) 22 5 (.int .u8 0) 1 Try.underlying22 Try.info5 rfl .i64 .i64 len (by omega) (by omega)
    rw [made_eq] at hmk
    have HR : Hid (Rd w (some x) len xs) := hr
    have HX : Hid (xs.length = len) := hxl
    clear hr hxl
    go_enter Try.func6, Try.ntmps6
    go_wp2
    clear hmk hq
    go_loopw [4] (fun c wr => ∃ k : Nat, k ≤ len ∧ c = .int .i64 (k : Int) ∧ wr = w.alloc (.cells ((cp xs len k).map (Value.int .u8)).toArray 5)) (fun c _ => len - (intOf c).toNat)
    case atStart => exact ⟨0, Nat.zero_le _, rfl, by rw [cp_zero]; simp⟩
    case round =>
      obtain ⟨k, hk, rfl, rfl⟩ := hrel
      by_cases hlt : k < len
      · obtain ⟨b, off, e, hb, hc⟩ := HR.out.lt (by omega)
        have hck := hc k hlt
        have hcl := cp_len xs len k HX.out (by omega)
        have HS : Hid ((cp xs len k).set k (xs.getD k 0) = cp xs len (k + 1)) := cp_step xs len k HX.out hlt
        generalize cp xs len k = ys at *
        obtain ⟨q, hq⟩ : ∃ q, ys[k]? = some q := ⟨ys[k], by simp⟩
        generalize xs.getD k 0 = z at *
        simp only [Option.some.injEq] at e
        subst e
        clear hc
        go_wp2
        go_roundw
        case rel => exact ⟨k + 1, by omega, by go_num, by rw [← HS.out, List.map_set]⟩
        case measure => simp [intOf]; omega
      · have HE : Hid (cp xs len k = xs) := by
          have e : k = len := by omega
          rw [e]; exact cp_full xs len HX.out
        go_wp2
        go_ret
        refine ⟨some ⟨w.heap.size, 0, none⟩, rfl, ?_, by simp, (Below.refl _ _).alloc (Nat.le_refl _) _⟩
        rw [HE.out]
        have := rd_alloc w xs
        rw [HX.out] at this
        exact this
#print axioms clone_any
end Go.Proofs.Qxb6608795a

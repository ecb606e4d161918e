import Derived.Test.Qxb6608797aFmtStr
namespace Go.Proofs.Qxb6608797aFmt
open Go.RowKit

/-- What a hex digit stands for, in either case. -/
def unhex (c : Nat) : Nat := if 48 ≤ c ∧ c ≤ 57 then c - 48 else if 97 ≤ c ∧ c ≤ 102 then c - 87 else if 65 ≤ c ∧ c ≤ 70 then c - 55 else 255

set_option maxRecDepth 100000 in
theorem rev_fin : ∀ c : Fin 256, (((⟨#[255, 255, 255, 255, 255, 255, 255, 255, 255, 255, 255, 255, 255, 255, 255, 255, 255, 255, 255, 255, 255, 255, 255, 255, 255, 255, 255, 255, 255, 255, 255, 255, 255, 255, 255, 255, 255, 255, 255, 255, 255, 255, 255, 255, 255, 255, 255, 255, 0, 1, 2, 3, 4, 5, 6, 7, 8, 9, 255, 255, 255, 255, 255, 255, 255, 10, 11, 12, 13, 14, 15, 255, 255, 255, 255, 255, 255, 255, 255, 255, 255, 255, 255, 255, 255, 255, 255, 255, 255, 255, 255, 255, 255, 255, 255, 255, 255, 10, 11, 12, 13, 14, 15, 255, 255, 255, 255, 255, 255, 255, 255, 255, 255, 255, 255, 255, 255, 255, 255, 255, 255, 255, 255, 255, 255, 255, 255, 255, 255, 255, 255, 255, 255, 255, 255, 255, 255, 255, 255, 255, 255, 255, 255, 255, 255, 255, 255, 255, 255, 255, 255, 255, 255, 255, 255, 255, 255, 255, 255, 255, 255, 255, 255, 255, 255, 255, 255, 255, 255, 255, 255, 255, 255, 255, 255, 255, 255, 255, 255, 255, 255, 255, 255, 255, 255, 255, 255, 255, 255, 255, 255, 255, 255, 255, 255, 255, 255, 255, 255, 255, 255, 255, 255, 255, 255, 255, 255, 255, 255, 255, 255, 255, 255, 255, 255, 255, 255, 255, 255, 255, 255, 255, 255, 255, 255, 255, 255, 255, 255, 255, 255, 255, 255, 255, 255, 255, 255, 255, 255, 255, 255, 255, 255, 255, 255, 255, 255, 255, 255, 255, 255, 255, 255, 255, 255, 255]⟩ : ByteArray)[c.val]'c.isLt).toNat) = unhex c.val := by decide +kernel

set_option maxRecDepth 100000 in
theorem rev_eq (c : Nat) (h : c < (⟨#[255, 255, 255, 255, 255, 255, 255, 255, 255, 255, 255, 255, 255, 255, 255, 255, 255, 255, 255, 255, 255, 255, 255, 255, 255, 255, 255, 255, 255, 255, 255, 255, 255, 255, 255, 255, 255, 255, 255, 255, 255, 255, 255, 255, 255, 255, 255, 255, 0, 1, 2, 3, 4, 5, 6, 7, 8, 9, 255, 255, 255, 255, 255, 255, 255, 10, 11, 12, 13, 14, 15, 255, 255, 255, 255, 255, 255, 255, 255, 255, 255, 255, 255, 255, 255, 255, 255, 255, 255, 255, 255, 255, 255, 255, 255, 255, 255, 10, 11, 12, 13, 14, 15, 255, 255, 255, 255, 255, 255, 255, 255, 255, 255, 255, 255, 255, 255, 255, 255, 255, 255, 255, 255, 255, 255, 255, 255, 255, 255, 255, 255, 255, 255, 255, 255, 255, 255, 255, 255, 255, 255, 255, 255, 255, 255, 255, 255, 255, 255, 255, 255, 255, 255, 255, 255, 255, 255, 255, 255, 255, 255, 255, 255, 255, 255, 255, 255, 255, 255, 255, 255, 255, 255, 255, 255, 255, 255, 255, 255, 255, 255, 255, 255, 255, 255, 255, 255, 255, 255, 255, 255, 255, 255, 255, 255, 255, 255, 255, 255, 255, 255, 255, 255, 255, 255, 255, 255, 255, 255, 255, 255, 255, 255, 255, 255, 255, 255, 255, 255, 255, 255, 255, 255, 255, 255, 255, 255, 255, 255, 255, 255, 255, 255, 255, 255, 255, 255, 255, 255, 255, 255, 255, 255, 255, 255, 255, 255, 255, 255, 255, 255, 255, 255, 255, 255, 255]⟩ : ByteArray).size) : (((⟨#[255, 255, 255, 255, 255, 255, 255, 255, 255, 255, 255, 255, 255, 255, 255, 255, 255, 255, 255, 255, 255, 255, 255, 255, 255, 255, 255, 255, 255, 255, 255, 255, 255, 255, 255, 255, 255, 255, 255, 255, 255, 255, 255, 255, 255, 255, 255, 255, 0, 1, 2, 3, 4, 5, 6, 7, 8, 9, 255, 255, 255, 255, 255, 255, 255, 10, 11, 12, 13, 14, 15, 255, 255, 255, 255, 255, 255, 255, 255, 255, 255, 255, 255, 255, 255, 255, 255, 255, 255, 255, 255, 255, 255, 255, 255, 255, 255, 10, 11, 12, 13, 14, 15, 255, 255, 255, 255, 255, 255, 255, 255, 255, 255, 255, 255, 255, 255, 255, 255, 255, 255, 255, 255, 255, 255, 255, 255, 255, 255, 255, 255, 255, 255, 255, 255, 255, 255, 255, 255, 255, 255, 255, 255, 255, 255, 255, 255, 255, 255, 255, 255, 255, 255, 255, 255, 255, 255, 255, 255, 255, 255, 255, 255, 255, 255, 255, 255, 255, 255, 255, 255, 255, 255, 255, 255, 255, 255, 255, 255, 255, 255, 255, 255, 255, 255, 255, 255, 255, 255, 255, 255, 255, 255, 255, 255, 255, 255, 255, 255, 255, 255, 255, 255, 255, 255, 255, 255, 255, 255, 255, 255, 255, 255, 255, 255, 255, 255, 255, 255, 255, 255, 255, 255, 255, 255, 255, 255, 255, 255, 255, 255, 255, 255, 255, 255, 255, 255, 255, 255, 255, 255, 255, 255, 255, 255, 255, 255, 255, 255, 255, 255, 255, 255, 255, 255, 255]⟩ : ByteArray)[c]'h).toNat) = unhex c := rev_fin ⟨c, h⟩

/-- What has been read after k bytes, over ys. -/
def decTo (xs ys : List Int) (k : Nat) : List Int := xs.take k ++ ys.drop k

theorem decTo_zero (xs ys : List Int) : decTo xs ys 0 = ys := by simp [decTo]
theorem decTo_full (xs ys : List Int) (n : Nat) (hx : xs.length = n) (hy : ys.length = n) : decTo xs ys n = xs := by simp [decTo, ← hx, List.drop_eq_nil_of_le (show ys.length ≤ xs.length by omega)]
theorem decTo_len (xs ys : List Int) (n k : Nat) (hx : xs.length = n) (hy : ys.length = n) (hk : k ≤ n) : (decTo xs ys k).length = n := by simp [decTo]; omega
theorem decTo_step (xs ys : List Int) (n k : Nat) (hx : xs.length = n) (hy : ys.length = n) (hk : k < n) : (decTo xs ys k).set k (xs.getD k 0) = decTo xs ys (k + 1) := by
  unfold decTo
  have hl : (xs.take k).length = k := by simp; omega
  have e : xs.getD k 0 = xs[k]'(by omega) := by rw [List.getD_eq_getElem?_getD, List.getElem?_eq_getElem (by omega), Option.getD_some]
  rw [List.set_append_right _ _ (by omega), hl, Nat.sub_self, List.drop_eq_getElem_cons (by omega), List.set_cons_zero, e, List.take_succ_eq_append_getElem (by omega), List.append_assoc]
  rfl

theorem or_fin : ∀ a b : Fin 16, bits BinOp.or IntKind.u8 ((a.val : Int) * 16) (b.val : Int) = 16 * (a.val : Int) + (b.val : Int) := by decide +kernel

theorem grown_set {w wr : World} {D k : Nat} {v : Value} (h : w.grownBy wr (some D)) : w.grownBy (wr.setCell ⟨D, k, none⟩ v) (some D) :=
  ⟨h.os, h.tape, h.output, by simpa using h.size, fun j hj hne => (heap_setCell_other wr ⟨D, k, none⟩ j v (fun e => hne (by simp [e]))).trans (h.block j hj hne)⟩

set_option maxRecDepth 100000 in
set_option maxHeartbeats 2000000 in
theorem dec_any (w : World) (D S scap : Nat) (xs ys : List Int) (hx : xs.length = 32) (hy : ys.length = 32) (hD : w.heap[D]? = some (.cells (ys.map (Value.int .u8)).toArray 23 (0, 0))) (hne : S ≠ D)
    (hs : ∀ k, k < 32 → ∃ p q : Nat, p < 256 ∧ q < 256 ∧ w.cell? ⟨S, 2 * k, none⟩ = some (.int .u8 p) ∧ w.cell? ⟨S, 2 * k + 1, none⟩ = some (.int .u8 q) ∧ unhex p < 16 ∧ unhex q < 16 ∧ 16 * (unhex p : Int) + (unhex q : Int) = xs.getD k 0) :
    Calls Tryf.prog 9 #[.slice (some ⟨D, 0, none⟩) 32 32, .slice (some ⟨S, 0, none⟩) 64 scap] w fun e w' =>
      e = .returned (.tuple #[.int .i64 32, .nilIface]) ∧ w'.heap[D]? = some (.cells (xs.map (Value.int .u8)).toArray 23 (0, 0)) ∧ w.grownBy w' (some D) := by
  have HX : Hid (xs.length = 32) := hx
  have HY : Hid (ys.length = 32) := hy
  have HD : Hid (w.heap[D]? = some (.cells (ys.map (Value.int .u8)).toArray 23 (0, 0))) := hD
  have HS : Hid (∀ k, k < 32 → ∃ p q : Nat, p < 256 ∧ q < 256 ∧ w.cell? ⟨S, 2 * k, none⟩ = some (.int .u8 p) ∧ w.cell? ⟨S, 2 * k + 1, none⟩ = some (.int .u8 q) ∧ unhex p < 16 ∧ unhex q < 16 ∧ 16 * (unhex p : Int) + (unhex q : Int) = xs.getD k 0) := hs
  have HNE : Hid (S ≠ D) := hne
  clear hx hy hD hs hne
  go_enter Tryf.func9, Tryf.ntmps9
  go_wp2
  go_loopw [6, 7] (fun i j wr => ∃ k : Nat, k ≤ 32 ∧ i = .int .i64 (k : Int) ∧ j = .int .i64 (2 * (k : Int)) ∧ Hid (wr.heap[D]? = some (.cells ((decTo xs ys k).map (Value.int .u8)).toArray 23 (0, 0))) ∧ Hid (w.grownBy wr (some D))) (fun i _ _ => 32 - (intOf i).toNat)
  case atStart => exact ⟨0, by omega, rfl, rfl, by rw [decTo_zero]; exact HD, World.grownBy.refl _ _⟩
  case round =>
    obtain ⟨k, hk, rfl, rfl, HDr, HGr⟩ := hrel
    by_cases hlt : k < 32
    · obtain ⟨p, q, hp, hq, hcp, hcq, hup, huq, hsum⟩ := HS.out k hlt
      have hcp' := HGr.out.cell hcp (by simpa using HNE.out)
      have hcq' := HGr.out.cell hcq (by simpa using HNE.out)
      have hdl := decTo_len xs ys 32 k HX.out HY.out hk
      have HST : Hid ((decTo xs ys k).set k (xs.getD k 0) = decTo xs ys (k + 1)) := decTo_step xs ys 32 k HX.out HY.out hlt
      have hfz := frozen_of_row wr D k _ 23 HDr.out
      have hcd := cell_of_row wr D k _ 23 (0, 0) HDr.out
      have HW1 : Hid _ := heap_setCell_same wr D k _ 23 (.int .u8 (xs.getD k 0)) HDr.out
      generalize decTo xs ys k = zs at *
      obtain ⟨z, hz⟩ : ∃ z, zs[k]? = some z := ⟨zs[k]'(by omega), by simp⟩
      rw [List.getElem?_toArray, List.getElem?_map, hz, Option.map_some] at hcd
      have hrp := rev_eq p hp
      have hrq := rev_eq q hq
      have hor := or_fin ⟨unhex p, hup⟩ ⟨unhex q, huq⟩
      simp only [] at hor
      rw [hsum] at hor
      generalize unhex p = a at *
      generalize unhex q = b at *
      generalize xs.getD k 0 = x at *
      have HSU : Hid _ := hsum
      clear hcp hcq hsum
      go_wp2
      go_roundw
      case rel =>
        refine ⟨k + 1, by omega, by go_num, by go_num, ?_, grown_set HGr.out⟩
        unfold Hid
        rw [HW1.out, ← HST.out, List.map_set]
        simp
      case measure => simp [intOf]; omega
    · have e : k = 32 := by omega
      have HF : Hid (wr.heap[D]? = some (.cells (xs.map (Value.int .u8)).toArray 23 (0, 0))) := by
        have := HDr.out
        rw [e, decTo_full xs ys 32 HX.out HY.out] at this
        exact this
      have hki : (k : Int) = 32 := by omega
      rw [hki]
      clear e hki HDr
      go_wp2
      go_ret2
      exact ⟨rfl, HF.out, HGr.out⟩
#print axioms dec_any
end Go.Proofs.Qxb6608797aFmt

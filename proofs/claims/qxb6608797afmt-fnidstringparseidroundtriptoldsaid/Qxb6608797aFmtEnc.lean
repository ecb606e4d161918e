import Derived.Test.Qxb6608797aFmtRows
import Derived.Test.Qxb6608797aFmtPlain
import Derived.WalkKit
import Derived.WalkSpells
import Derived.Deep.OwnRows
import Derived.Laws.BytesArg
namespace Go.Proofs.Qxb6608797aFmt
open Go.RowKit

theorem tab_fin : ∀ d : Fin 16, (((⟨#[48, 49, 50, 51, 52, 53, 54, 55, 56, 57, 97, 98, 99, 100, 101, 102]⟩ : ByteArray)[d.val]'d.isLt).toNat : Int) = dig (d.val : Int) := by decide +kernel

theorem tab_eq (d : Nat) (h : d < (⟨#[48, 49, 50, 51, 52, 53, 54, 55, 56, 57, 97, 98, 99, 100, 101, 102]⟩ : ByteArray).size) :
    (((⟨#[48, 49, 50, 51, 52, 53, 54, 55, 56, 57, 97, 98, 99, 100, 101, 102]⟩ : ByteArray)[d]'h).toNat : Int) = dig (d : Int) := tab_fin ⟨d, h⟩

theorem and15_fin : ∀ x : Fin 256, bits BinOp.and IntKind.u8 (x.val : Int) 15 = (x.val : Int) % 16 := by decide +kernel

set_option maxHeartbeats 1000000 in
theorem enc_any (W : World) (b off cap : Nat) (xs ys : List Int) (hx : xs.length = 32) (hy : ys.length = 64) (hb : b < W.heap.size) (hr : ∀ x ∈ xs, 0 ≤ x ∧ x ≤ 255) (hc : ∀ i, i < 32 → W.cell? ⟨b, off + i, none⟩ = some (.int .u8 (xs.getD i 0))) :
    Calls Tryf.prog 11 #[.slice (some ⟨W.heap.size, 0, none⟩) 64 64, .slice (some ⟨b, off, none⟩) 32 cap] (W.alloc (.cells (ys.map (Value.int .u8)).toArray 5)) fun e w' =>
      e = .returned (.int .i64 64) ∧ w' = W.alloc (.cells ((hexL xs).map (Value.int .u8)).toArray 5) := by
  have HX : Hid (xs.length = 32) := hx
  have HY : Hid (ys.length = 64) := hy
  have HR : Hid (∀ x ∈ xs, 0 ≤ x ∧ x ≤ 255) := hr
  have HC : Hid (∀ i, i < 32 → W.cell? ⟨b, off + i, none⟩ = some (.int .u8 (xs.getD i 0))) := hc
  clear hx hr hc hy
  go_enter Tryf.func11, Tryf.ntmps11
  go_wp2
  go_loopw [5, 10] (fun j i wr => ∃ k : Nat, k ≤ 32 ∧ j = .int .i64 (2 * (k : Int)) ∧ i = .int .i64 (k : Int) ∧ wr = W.alloc (.cells ((encTo xs ys k).map (Value.int .u8)).toArray 5)) (fun _ i _ => 32 - (intOf i).toNat)
  case atStart => exact ⟨0, by omega, rfl, rfl, by rw [encTo_zero]⟩
  case round =>
    obtain ⟨k, hk, rfl, rfl, rfl⟩ := hrel
    by_cases hlt : k < 32
    · have hck := HC.out k hlt
      have hel := encTo_len xs ys 32 k HX.out (by rw [HY.out]) hk
      have HS : Hid _ := encTo_step xs ys 32 k HX.out (by rw [HY.out]) hlt
      have hxr : 0 ≤ xs.getD k 0 ∧ xs.getD k 0 ≤ 255 := by
        have hlx := HX.out
        rw [List.getD_eq_getElem?_getD, List.getElem?_eq_getElem (by omega), Option.getD_some]
        exact HR.out _ (List.getElem_mem _)
      generalize encTo xs ys k = zs at *
      generalize xs.getD k 0 = x at *
      obtain ⟨q, hq⟩ : ∃ q, zs[2 * k]? = some q := ⟨zs[2 * k]'(by omega), by simp⟩
      obtain ⟨q', hq'⟩ : ∃ q, zs[2 * k + 1]? = some q := ⟨zs[2 * k + 1]'(by omega), by simp⟩
      obtain ⟨y, rfl⟩ := Int.eq_ofNat_of_zero_le hxr.1
      have ha := and15_fin ⟨y, by omega⟩
      simp only [] at ha
      go_wp2
      go_roundw
      case rel => exact ⟨k + 1, by omega, by go_num, by go_num, by rw [tab_eq, tab_eq, ← HS.out, List.map_set, List.map_set]; simp⟩
      case measure => simp [intOf]; omega
    · have HE : Hid (encTo xs ys k = hexL xs) := by
        have e : k = 32 := by omega
        rw [e]; exact encTo_full xs ys 32 HX.out (by rw [HY.out])
      go_wp2
      go_ret
      exact ⟨rfl, by rw [HE.out]⟩
#print axioms enc_any
end Go.Proofs.Qxb6608797aFmt

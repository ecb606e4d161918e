import Derived.Test.Qxb6608659aRows
import Derived.WalkKit
import Derived.OpenShut
import Derived.WalkSpells
import Derived.Test.Qxb6608659aKey
import Derived.Test.Qxb6608659aSwap
namespace Go.Proofs.Qxb6608659a.fnInKeyAlphabetIsByteByByte
open Go.RowKit

theorem Try.info5 : (Try.prog.info? 5).map (fun i => (i.zero, i.size, i.bytes)) = some (some (.int .u8 0), 1, 1) := by kernel_rfl

theorem bytes8 (s : ByteArray) (w : World) (hs : s.size ≤ maxLen) :
    Calls Try.prog 8 #[.string s] w fun e w' => e = .returned (.bool (decide (s.size ≤ 1048576))) ∧ w' = w := by
  unfold maxLen at hs
  by_cases h : s.size ≤ 1048576
  · go_enter Try.func8, Try.ntmps8
    go_wp2
    go_ret
    exact ⟨by simp [h], rfl⟩
  · go_enter Try.func8, Try.ntmps8
    go_wp2
    go_ret
    exact ⟨by simp [h], rfl⟩

theorem made_eq (n : Nat) : madeCells #[.int .u8 0] n = ((List.replicate n (0 : Int)).map (Value.int .u8)).toArray := by
  apply Array.ext_getElem?
  intro i
  simp only [madeCells, List.getElem?_toArray, List.map_replicate]
  by_cases h : i < n
  · simp [h, Nat.mod_one]
  · simp [h]

/-- sw so far: its first k numbers are the flipped bytes of s. -/
def swRel (s : ByteArray) (zs : List Int) (k : Nat) : Prop := zs.length = s.size ∧ ∀ j, (hj : j < s.size) → j < k → zs.getD j 0 = swapN (s[j].toNat : Int)

theorem swRel_step {s : ByteArray} {zs : List Int} {k : Nat} (hk : k < s.size) (h : swRel s zs k) : swRel s (zs.set k (swapN (s[k].toNat : Int))) (k + 1) := by
  refine ⟨by simp [h.1], fun j hj hlt => ?_⟩
  have hl : k < zs.length := by rw [h.1]; exact hk
  simp only [List.getD_eq_getElem?_getD, List.getElem?_set]
  by_cases e : k = j
  · subst e; simp [hl]
  · rw [if_neg e]
    have := h.2 j hj (by omega)
    simpa [List.getD_eq_getElem?_getD] using this

theorem swRel_zero (s : ByteArray) : swRel s (List.replicate s.size 0) 0 := ⟨by simp, fun j _ h => absurd h (Nat.not_lt_zero j)⟩

theorem swRel_key {s : ByteArray} {zs : List Int} {k : Nat} (hk : ¬ k < s.size) (h : swRel s zs k) : keyAll (strOfNums zs).data.toList = keyAll s.data.toList := by
  rw [strOfNums_data]
  unfold keyAll
  rw [List.all_map, Bool.eq_iff_iff, List.all_eq_true, List.all_eq_true]
  have hlen := h.1
  have key : ∀ j, (hj : j < s.size) → keyN (((UInt8.ofNat (zs.getD j 0).toNat).toNat : Nat) : Int) = keyN (s[j].toNat : Int) := by
    intro j hj
    rw [h.2 j hj (by omega)]
    have hb : s[j].toNat < 256 := UInt8.toNat_lt _
    have hr := swapN_range (s[j].toNat : Int) (by omega) (by omega)
    rw [UInt8.toNat_ofNat']
    have e : ((((swapN (s[j].toNat : Int)).toNat % 2 ^ 8 : Nat)) : Int) = swapN (s[j].toNat : Int) := by omega
    rw [e, keyN_swap]
  constructor
  · intro hz c hc
    obtain ⟨j, hj, rfl⟩ := List.getElem_of_mem hc
    have hj' : j < s.size := by simpa using hj
    have h1 := hz (zs[j]'(by omega)) (List.getElem_mem _)
    have h2 := key j hj'
    rw [List.getD_eq_getElem?_getD, List.getElem?_eq_getElem (by omega), Option.getD_some] at h2
    exact h2.symm.trans h1
  · intro hz c hc
    obtain ⟨j, hj, rfl⟩ := List.getElem_of_mem hc
    have hj' : j < s.size := by omega
    have h1 := hz s[j] (List.getElem_mem (l := s.data.toList) (by simpa using hj'))
    have h2 := key j hj'
    rw [List.getD_eq_getElem?_getD, List.getElem?_eq_getElem (by omega), Option.getD_some] at h2
    exact h2.trans h1

theorem conv5 (W : World) (zs : List Int) (n : Nat) (h : zs.length = n) (b : Nat) (hb : b = W.heap.size) :
    (convert 26 9 (.slice (some ⟨b, 0, none⟩) n n)).run Try.prog (W.alloc (.cells (zs.map (Value.int .u8)).toArray 5)) = .ok (.string (strOfNums zs)) (W.alloc (.cells (zs.map (Value.int .u8)).toArray 5)) := by
  refine run_convert_bytes_arg _ 26 5 Try.underlying26 Try.underlying5 b 0 n n zs h ?_ 9 Try.underlying9
  intro i hi
  rw [World.cell?_alloc_at (hn := hb)]
  have hl : i < zs.length := by omega
  rw [List.getElem?_toArray, List.getElem?_map, Nat.zero_add]
  simp only [List.getD_eq_getElem?_getD, List.getElem?_eq_getElem hl, Option.map_some, Option.getD_some]

theorem one_at (s : ByteArray) (k : Nat) (h : k < s.size) : keyAll (s.extract k (k + 1)).data.toList = keyN (s[k].toNat : Int) := by
  have e : (s.extract k (k + 1)).data.toList = [s[k]] := by
    have hl : k < s.data.toList.length := by simpa using h
    rw [ByteArray.data_extract, Array.toList_extract, List.extract_eq_take_drop, Nat.add_sub_cancel_left, List.drop_eq_getElem_cons hl]
    rfl
  rw [e]; simp [keyAll]

theorem key_snoc {s : ByteArray} {j : Nat} (h : j < s.size) : keyAll (s.data.toList.take (j + 1)) = (keyAll (s.data.toList.take j) && keyN (s[j].toNat : Int)) := by
  rw [take_snoc s j h, keyAll_append]; simp [keyAll]

set_option maxRecDepth 100000 in
set_option maxHeartbeats 2000000 in
theorem walk (a0 : ByteArray) (w0 : a0.size ≤ maxLen) (w : World) :
    Calls Try.prog 4 #[.string a0] w fun e w' => e = .returned (.bool true) ∧ Grown w w' := by
  by_cases hs : a0.size ≤ 1048576
  · go_enter Try.func4, Try.ntmps4
    go_wp2_with fail
    refine (bytes8 _ _ w0).mono ?_
    rintro e w' ⟨rfl, rfl⟩
    go_wp2_with fail
    go_loopw [3, 4, 6] (fun cn ck c wr => ∃ (k : Nat) (x : Int), k ≤ 256 ∧ cn = .int .i64 (cntN k : Int) ∧ ck = .bool true ∧ c = .int .i64 (k : Int) ∧ wr = w'.alloc (.cells #[.int .u8 x] 25)) (fun _ _ c _ => 256 - (intOf c).toNat)
    case atStart => exact ⟨0, 0, by omega, rfl, rfl, rfl, rfl⟩
    case round =>
      obtain ⟨k, x, hk, rfl, rfl, rfl, rfl⟩ := hrel
      have hc := cntN_le k
      by_cases hlt : k < 256
      · have hcv := conv25 w' (k : Int)
        have hcs := conv25 w' (swapN (k : Int))
        have hr := swapN_range (k : Int) (by omega) (by omega)
        cases hy : keyN (k : Int)
        · have hk1 : keyAll (strOfNums [(k : Int)]).data.toList = false := by rw [key_one _ (by omega) (by omega), hy]
          have hk2 : keyAll (strOfNums [swapN (k : Int)]).data.toList = false := by rw [key_one _ hr.1 hr.2, keyN_swap, hy]
          go_wp2_with fail
          refine (key_any _ _ (by rw [strOfNums_size]; unfold maxLen; simp)).mono ?_
          rintro e w1 ⟨rfl, rfl⟩
          go_wp2_with fail
          refine (swap_any _ _ (by omega) (by omega)).mono ?_
          rintro e w1 ⟨rfl, rfl⟩
          go_wp2_with fail
          refine (key_any _ _ (by rw [strOfNums_size]; unfold maxLen; simp)).mono ?_
          rintro e w1 ⟨rfl, rfl⟩
          go_wp2_with fail
          go_roundw
          case rel => exact ⟨k + 1, _, by omega, by rw [cntN_no hy], rfl, by go_num, rfl⟩
          case measure => simp [intOf]; omega
        · have hk1 : keyAll (strOfNums [(k : Int)]).data.toList = true := by rw [key_one _ (by omega) (by omega), hy]
          have hk2 : keyAll (strOfNums [swapN (k : Int)]).data.toList = true := by rw [key_one _ hr.1 hr.2, keyN_swap, hy]
          go_wp2_with fail
          refine (key_any _ _ (by rw [strOfNums_size]; unfold maxLen; simp)).mono ?_
          rintro e w1 ⟨rfl, rfl⟩
          go_wp2_with fail
          refine (swap_any _ _ (by omega) (by omega)).mono ?_
          rintro e w1 ⟨rfl, rfl⟩
          go_wp2_with fail
          refine (key_any _ _ (by rw [strOfNums_size]; unfold maxLen; simp)).mono ?_
          rintro e w1 ⟨rfl, rfl⟩
          go_wp2_with fail
          go_roundw
          case rel => exact ⟨k + 1, _, by omega, by rw [cntN_yes hy]; go_num, rfl, by go_num, rfl⟩
          case measure => simp [intOf]; omega
      · have hk6 : (k : Int) = 256 := by omega
        have hc6 : (cntN k : Int) = 66 := by
          have e : k = 256 := by omega
          rw [e, cntN_all]; rfl
        rw [hc6, hk6]
        clear hc hk hlt hk6 hc6
        go_wp2_with fail
        go_loop [8, 9] (fun ev i => ∃ j : Nat, j ≤ a0.size ∧ i = .int .i64 (j : Int) ∧ ev = .bool (keyAll (a0.data.toList.take j))) (fun _ i => a0.size - (intOf i).toNat)
        case atStart => exact ⟨0, Nat.zero_le _, rfl, rfl⟩
        case round =>
          obtain ⟨j, hj, rfl, rfl⟩ := hrel
          by_cases hlt : j < a0.size
          · have hsn := key_snoc hlt
            cases hy : keyN (a0[j].toNat : Int)
            · rw [hy, Bool.and_false] at hsn
              have HS : Hid (keyAll (a0.data.toList.take (j + 1)) = false) := hsn
              clear hsn
              go_wp2_with fail
              refine (key_any _ _ (by unfold maxLen; simp; omega)).mono ?_
              rintro e w1 ⟨rfl, rfl⟩
              rw [one_at a0 j hlt, hy]
              go_wp2_with fail
              go_round
              case rel => exact ⟨j + 1, by omega, by go_num, by rw [HS.out]⟩
              case measure => simp [intOf]; omega
            · rw [hy, Bool.and_true] at hsn
              have HS : Hid (keyAll (a0.data.toList.take (j + 1)) = keyAll (a0.data.toList.take j)) := hsn
              clear hsn
              go_wp2_with fail
              refine (key_any _ _ (by unfold maxLen; simp; omega)).mono ?_
              rintro e w1 ⟨rfl, rfl⟩
              rw [one_at a0 j hlt, hy]
              go_wp2_with fail
              go_round
              case rel => exact ⟨j + 1, by omega, by go_num, by rw [HS.out]⟩
              case measure => simp [intOf]; omega
          · have ht : keyAll (a0.data.toList.take j) = keyAll a0.data.toList := by rw [List.take_of_length_le (by simp; omega)]
            rw [ht]
            clear ht
            have hmk := run_make_row' (P := Try.prog) 26 5 (.int .u8 0) 1 Try.underlying26 Try.info5 rfl .i64 .i64 a0.size (by omega) (by omega)
            rw [made_eq] at hmk
            go_wp2_with fail
            clear hmk hlt hj
            go_loopw [11] (fun c wr => ∃ (i : Nat) (zs : List Int), i ≤ a0.size ∧ c = .int .i64 (i : Int) ∧ zs.length = a0.size ∧ Hid (swRel a0 zs i) ∧ wr = (w'.alloc (.cells #[.int .u8 x] 25)).alloc (.cells (zs.map (Value.int .u8)).toArray 5)) (fun c _ => a0.size - (intOf c).toNat)
            case atStart => exact ⟨0, List.replicate a0.size 0, Nat.zero_le _, rfl, by simp, swRel_zero a0, by simp⟩
            case round =>
              obtain ⟨i, zs, hi, rfl, hzl, HZ, rfl⟩ := hrel
              by_cases hlt : i < a0.size
              · obtain ⟨q, hq⟩ : ∃ q, zs[i]? = some q := ⟨zs[i], by simp⟩
                have HN : Hid (swRel a0 (zs.set i (swapN (a0[i].toNat : Int))) (i + 1)) := swRel_step hlt HZ.out
                have hb : a0[i].toNat < 256 := UInt8.toNat_lt _
                go_wp2_with fail
                refine (swap_any _ _ (by omega) (by omega)).mono ?_
                rintro e w1 ⟨rfl, rfl⟩
                go_wp2_with fail
                go_roundw
                case rel => exact ⟨i + 1, _, by omega, by go_num, by simp [hzl], HN, by rw [List.map_set]⟩
                case measure => simp [intOf]; omega
              · have hkk := swRel_key hlt HZ.out
                have hcv := conv5 (w'.alloc (.cells #[.int .u8 x] 25)) zs a0.size hzl (w'.heap.size + 1) (by simp)
                have hsz : (strOfNums zs).size ≤ maxLen := by rw [strOfNums_size, hzl]; exact w0
                have HK : Hid (keyAll (strOfNums zs).data.toList = keyAll a0.data.toList) := hkk
                clear hkk
                go_wp2_with fail
                refine (key_any _ _ w0).mono ?_
                rintro e w1 ⟨rfl, rfl⟩
                go_wp2_with fail
                refine (key_any _ _ hsz).mono ?_
                rintro e w1 ⟨rfl, rfl⟩
                rw [HK.out]
                go_wp2_with fail
                go_ret
                exact ⟨by simp, ((Grown.refl _).alloc _ _).alloc _ _⟩
  · go_enter Try.func4, Try.ntmps4
    go_wp2_with fail
    refine (bytes8 _ _ w0).mono ?_
    rintro e w' ⟨rfl, rfl⟩
    go_wp2_with fail
    go_ret
    exact ⟨rfl, Grown.refl _⟩
#print axioms walk
end Go.Proofs.Qxb6608659a.fnInKeyAlphabetIsByteByByte

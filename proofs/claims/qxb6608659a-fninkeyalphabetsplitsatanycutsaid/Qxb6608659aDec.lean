import Derived.Test.Qxb6608659aRows
import Derived.Test.Qxb6608659aPlain
import Derived.WalkKit
import Derived.WalkSpells
import Derived.Laws.BytesArg
namespace Go.Proofs.Qxb6608659a
open Go.RowKit

theorem Try.cells5 : Try.prog.cellsOf 5 = 1 := by kernel_rfl

def decRel (w : World) (u i : Value) (wr : World) : Prop :=
  ∃ (k m : Nat) (zs : List Int), 1 ≤ k ∧ k ≤ 20 ∧ u = .int .u64 m ∧ m ≤ 18446744073709551615 ∧ Hid (m < 10 ^ k) ∧ i = .int .i64 k ∧ zs.length = 20 ∧ Hid (∀ j, k ≤ j → j < 20 → 48 ≤ zs.getD j 0 ∧ zs.getD j 0 ≤ 57) ∧ wr = w.alloc (.cells (zs.map (Value.int .u8)).toArray 29)

theorem slice29 (j : Nat) (hj : j < 20) (b : Nat) (W : World) :
    (Instr.sliceAt 29 (.pointer (some ⟨b, 0, none⟩)) (some (.int .i64 (j : Int))) none none).run Try.prog W = .ok (.slice (some ⟨b, j, none⟩) (20 - j) (20 - j)) W := by
  have hal : Try.prog.arrayLen 29 = 20 := by simp [Program.arrayLen, Try.underlying29]
  have hel : Try.prog.elem 29 = 5 := by simp [Program.elem, Try.underlying29]
  rw [run_sliceAt_array_l W 29 ⟨b, 0, none⟩ (by rw [hal, hel]; exact Try.underlying29) .i64 (j : Int) (by omega) (by rw [hal]; omega), hel, hal]
  have hne : ¬ (20 = j) := by omega
  simp [go_sem, slicedAt, Addr.add, hne]
  omega

/-- The digits written so far. -/
def digs (zs : List Int) (j : Nat) (d : Int) : List Int := (zs.set j d).drop j

theorem digs_len (zs : List Int) (j : Nat) (d : Int) (h : zs.length = 20) : (digs zs j d).length = 20 - j := by
  simp [digs, h]

theorem getD_set (zs : List Int) (j i : Nat) (d : Int) (hj : j < zs.length) : (zs.set j d).getD i 0 = if j = i then d else zs.getD i 0 := by
  simp only [List.getD_eq_getElem?_getD, List.getElem?_set, hj, if_true]
  split <;> simp_all

theorem digs_ok (zs : List Int) (j : Nat) (d : Int) (h : zs.length = 20) (hj : j < 20) (hd : 48 ≤ d ∧ d ≤ 57)
    (hz : ∀ i, j + 1 ≤ i → i < 20 → 48 ≤ zs.getD i 0 ∧ zs.getD i 0 ≤ 57) : ∀ i, j ≤ i → i < 20 → 48 ≤ (zs.set j d).getD i 0 ∧ (zs.set j d).getD i 0 ≤ 57 := by
  intro i h1 h2
  rw [getD_set _ _ _ _ (by omega)]
  split
  · exact hd
  · exact hz i (by omega) h2

theorem digs_getD (zs : List Int) (j i : Nat) (d : Int) : (digs zs j d).getD i 0 = (zs.set j d).getD (j + i) 0 := by
  simp [digs, List.getD_eq_getElem?_getD, List.getElem?_drop]

theorem key_nums (xs : List Int) (h : ∀ i, i < xs.length → 48 ≤ xs.getD i 0 ∧ xs.getD i 0 ≤ 57) : keyAll (strOfNums xs).data.toList = true := by
  rw [strOfNums_data]
  unfold keyAll
  rw [List.all_map, List.all_eq_true]
  intro x hx
  obtain ⟨i, hi, rfl⟩ := List.getElem_of_mem hx
  have := h i hi
  rw [List.getD_eq_getElem?_getD, List.getElem?_eq_getElem hi] at this
  simp only [Option.getD_some] at this
  apply keyN_true
  simp [UInt8.toNat_ofNat']
  omega

theorem key_digs (zs : List Int) (j : Nat) (d : Int) (h : zs.length = 20) (hj : j < 20) (hd : 48 ≤ d ∧ d ≤ 57)
    (hz : ∀ i, j + 1 ≤ i → i < 20 → 48 ≤ zs.getD i 0 ∧ zs.getD i 0 ≤ 57) : keyAll (strOfNums (digs zs j d)).data.toList = true := by
  apply key_nums
  intro i hi
  rw [digs_len _ _ _ h] at hi
  rw [digs_getD]
  exact digs_ok zs j d h hj hd hz _ (by omega) (by omega)

theorem conv29 (w : World) (zs : List Int) (j : Nat) (d : Int) (h : zs.length = 20) (hj : j < 20) :
    (convert 26 9 (.slice (some ⟨w.heap.size, j, none⟩) (20 - j) (20 - j))).run Try.prog (w.alloc (.cells ((List.map (Value.int .u8) zs).set j (Value.int .u8 d)).toArray 29)) =
      .ok (.string (strOfNums (digs zs j d))) (w.alloc (.cells ((List.map (Value.int .u8) zs).set j (Value.int .u8 d)).toArray 29)) := by
  refine run_convert_bytes_arg _ 26 5 Try.underlying26 Try.underlying5 w.heap.size j (20 - j) (20 - j) (digs zs j d) (digs_len _ _ _ h) ?_ 9 Try.underlying9
  intro i hi
  rw [World.cell?_alloc_at (hn := rfl), ← List.map_set, digs_getD]
  have hl : j + i < (zs.set j d).length := by simp; omega
  rw [List.getElem?_toArray, List.getElem?_map]
  simp only [List.getD_eq_getElem?_getD, List.getElem?_eq_getElem hl, Option.map_some, Option.getD_some]

theorem wrap_neg (n : Int) (h1 : -9223372036854775808 ≤ n) (hn : n < 0) : IntKind.u64.wrap (-IntKind.u64.wrap n) = ((-n).toNat : Int) := by
  simp [IntKind.wrap, IntKind.bits, IntKind.signed]
  omega

theorem pow_step (m j : Nat) (h : m < 10 ^ (j + 1)) : m / 10 < 10 ^ j := by
  rw [Nat.pow_succ] at h; omega

theorem dec_round (w : World) (m j : Nat) (zs : List Int) (hk2 : j + 1 ≤ 20) (hm : m ≤ 18446744073709551615) (HM : m < 10 ^ (j + 1)) (hzl : zs.length = 20)
    (HZ : ∀ i, j + 1 ≤ i → i < 20 → 48 ≤ zs.getD i 0 ∧ zs.getD i 0 ≤ 57) (hne : ((m : Int) / 10 == 0) = false) :
    decRel w (Value.int IntKind.u64 (↑m / 10)) (Value.int IntKind.i64 ↑j)
      (w.alloc (Obj.cells ((List.map (Value.int IntKind.u8) zs).set j (Value.int IntKind.u8 (48 + ↑m % 10))).toArray 29)) := by
  have hp := pow_step m j HM
  have hne' : ¬ ((m : Int) / 10 = 0) := by simpa using hne
  refine ⟨j, m / 10, zs.set j (48 + (m : Int) % 10), ?_, by omega, by simp, by omega, hp, rfl, by simp [hzl], ?_, by rw [List.map_set]⟩
  · rcases Nat.eq_zero_or_pos j with h | h
    · subst h; simp at hp; omega
    · exact h
  · exact digs_ok zs j _ hzl (by omega) (by omega) HZ

theorem key_minus (s : ByteArray) (h : keyAll s.data.toList = true) : keyAll ((⟨#[45]⟩ : ByteArray) ++ s).data.toList = true := by
  have e : ((⟨#[45]⟩ : ByteArray) ++ s).data.toList = [45] ++ s.data.toList := by simp [ByteArray.data_append]
  rw [e, keyAll_append, h]
  decide

set_option maxHeartbeats 1000000 in
theorem dec_any (n : Int) (w : World) (h1 : -9223372036854775808 ≤ n) (h2 : n ≤ 9223372036854775807) :
    Calls Try.prog 6 #[.int .i64 n] w fun e w' => ∃ d : ByteArray, e = .returned (.string d) ∧ keyAll d.data.toList = true ∧ d.size ≤ 21 ∧ Grown w w' := by
  by_cases hn : n < 0
  · go_enter Try.func6, Try.ntmps6
    go_wp2
    go_loopw [3, 6] (fun u i wr => decRel w u i wr) (fun _ i _ => (intOf i).toNat)
    case atStart =>
      refine ⟨20, (-n).toNat, List.replicate 20 0, by omega, by omega, by rw [wrap_neg n h1 hn], by omega, ?_, rfl, rfl, ?_, rfl⟩
      · show (-n).toNat < 10 ^ 20
        omega
      · intro j h1 h2; omega
    case round =>
      obtain ⟨k, m, zs, hk1, hk2, rfl, hm, HM, rfl, hzl, HZ, rfl⟩ := hrel
      obtain ⟨j, rfl⟩ : ∃ j, k = j + 1 := ⟨k - 1, by omega⟩
      obtain ⟨q, hq⟩ : ∃ q, zs[j]? = some q := ⟨zs[j], by simp⟩
      have hsl := slice29 j (by omega)
      have hcv := conv29 w zs j (48 + (m : Int) % 10) hzl (by omega)
      have hsz : (strOfNums (digs zs j (48 + (m : Int) % 10))).size ≤ 20 := by rw [strOfNums_size, digs_len _ _ _ hzl]; omega
      have HK : Hid (keyAll (strOfNums (digs zs j (48 + (m : Int) % 10))).data.toList = true) := key_digs zs j _ hzl (by omega) (by omega) HZ.out
      go_wp2
      · go_ret
        exact ⟨_, rfl, key_minus _ HK.out, by rw [ByteArray.size_append]; have : (⟨#[45]⟩ : ByteArray).size = 1 := rfl; omega, (Grown.refl _).alloc _ _⟩
      · go_roundw
        case rel => exact dec_round w m j zs hk2 hm HM.out hzl HZ.out (by assumption)
        case measure => simp [intOf]
  · go_enter Try.func6, Try.ntmps6
    go_wp2
    go_loopw [3, 6] (fun u i wr => decRel w u i wr) (fun _ i _ => (intOf i).toNat)
    case atStart =>
      refine ⟨20, n.toNat, List.replicate 20 0, by omega, by omega, ?_, by omega, ?_, rfl, rfl, ?_, rfl⟩
      · rw [Int.toNat_of_nonneg (by omega)]
      · show n.toNat < 10 ^ 20
        omega
      · intro j h1 h2; omega
    case round =>
      obtain ⟨k, m, zs, hk1, hk2, rfl, hm, HM, rfl, hzl, HZ, rfl⟩ := hrel
      obtain ⟨j, rfl⟩ : ∃ j, k = j + 1 := ⟨k - 1, by omega⟩
      obtain ⟨q, hq⟩ : ∃ q, zs[j]? = some q := ⟨zs[j], by simp⟩
      have hsl := slice29 j (by omega)
      have hcv := conv29 w zs j (48 + (m : Int) % 10) hzl (by omega)
      have hsz : (strOfNums (digs zs j (48 + (m : Int) % 10))).size ≤ 20 := by rw [strOfNums_size, digs_len _ _ _ hzl]; omega
      have HK : Hid (keyAll (strOfNums (digs zs j (48 + (m : Int) % 10))).data.toList = true) := key_digs zs j _ hzl (by omega) (by omega) HZ.out
      go_wp2
      · go_ret
        exact ⟨_, rfl, HK.out, by omega, (Grown.refl _).alloc _ _⟩
      · go_roundw
        case rel => exact dec_round w m j zs hk2 hm HM.out hzl HZ.out (by assumption)
        case measure => simp [intOf]
#print axioms dec_any
end Go.Proofs.Qxb6608659a

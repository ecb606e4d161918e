import Derived.Test.Qxb6608797aFmtHex
namespace Go.Proofs.Qxb6608797aFmt
open Go.RowKit

set_option maxRecDepth 100000 in
set_option maxHeartbeats 2000000 in
theorem trip_walk (w : World) (xs : List Int) (hx : xs.length = 32) (hr : ∀ x ∈ xs, 0 ≤ x ∧ x ≤ 255) :
    Calls Tryf.prog 3 #[.agg (xs.map (Value.int .u8)).toArray] w fun e w' => e = .returned (.bool true) ∧ Below w.heap.size w w' := by
  have heq := eq22 xs hx
  have HX : Hid (xs.length = 32) := hx
  have HR : Hid (∀ x ∈ xs, 0 ≤ x ∧ x ≤ 255) := hr
  have hsz := hex_size xs hx
  have HLOW : Hid _ := hex_low xs hx hr
  have HF : Hid _ := hex_reads xs hx hr
  clear hx hr
  go_enter Tryf.func3, Tryf.ntmps3
  go_wp2_with (first | (refine wpList_load_row rfl 22 (.tmp 1) rfl w.heap.size rfl 22 _ (0, 0) _ (heap_alloc_new w _) Tryf.underlying22 rfl (size_nums22 xs HX.out) ?_))
  refine (str_any _ xs HX.out HR.out).mono ?_
  rintro e w2 ⟨rfl, hb⟩
  have hB2 : w2.heap[w.heap.size]? = some (.cells (xs.map (Value.int .u8)).toArray 22 (0, 0)) := (hb.block _ (by simp)).trans (heap_alloc_new w _)
  have hb2 : Below w.heap.size w w2 := ((Below.refl _ _).alloc (Nat.le_refl _) _).trans (hb.mono (by simp))
  have HB2 : Hid (w2.heap[w.heap.size]? = some (.cells (xs.map (Value.int .u8)).toArray 22 (0, 0))) := hB2
  have HL2 : Hid (Below w.heap.size w w2) := hb2
  clear hb hB2 hb2
  generalize strOfNums (hexL xs) = S at *
  have hl : (S.size : Int) = 64 := by omega
  go_wp2_with fail
  go_loop [4] (fun c => ∃ k : Nat, k ≤ 64 ∧ c = .int .i64 (k : Int)) (fun c => 64 - (intOf c).toNat)
  case atStart => exact ⟨0, by omega, rfl⟩
  case round =>
    obtain ⟨k, hk, rfl⟩ := hrel
    by_cases hlt : k < 64
    · have hks : k < S.size := by omega
      have hd := HLOW.out k hks
      rcases hd with ⟨h1, h2⟩ | ⟨h1, h2⟩
      · go_wp2_with fail
        go_round
        case rel => exact ⟨k + 1, by omega, by go_num⟩
        case measure => simp [intOf]; omega
      · have h3 : ¬ ((S[k]'hks).toNat : Int) ≤ 57 := by omega
        go_wp2_with fail
        go_round
        case rel => exact ⟨k + 1, by omega, by go_num⟩
        case measure => simp [intOf]; omega
    · go_wp2_with fail
      refine (parse_any w2 S xs hsz HX.out (fun k hk => HF.out k hk (by omega) (by omega))).mono ?_
      rintro e w3 ⟨rfl, hb⟩
      have hB3 : w3.heap[w.heap.size]? = some (.cells (xs.map (Value.int .u8)).toArray 22 (0, 0)) := (hb.block _ (Array.getElem?_eq_some_iff.1 HB2.out).1).trans HB2.out
      have hlt3 : w.heap.size < w3.heap.size := (Array.getElem?_eq_some_iff.1 hB3).1
      have HL3 : Hid (Below w.heap.size w w3) := HL2.out.trans (hb.mono HL2.out.size)
      have HB3 : Hid (w3.heap[w.heap.size]? = some (.cells (xs.map (Value.int .u8)).toArray 22 (0, 0))) := hB3
      clear hb hB3 HF HLOW HL2 HB2
      go_wp2_with (first
        | (refine wpList_store_row rfl 23 (.tmp 6) (.tmp 40) rfl w3.heap.size _ rfl rfl 23 _ (heap_alloc_new w3 _) (size_nums xs HX.out) (by simp [HX.out]) (one_nums xs) ?_; rw [World.setRow_alloc_new])
        | (refine wpList_load_row rfl 23 (.tmp 6) rfl w3.heap.size rfl 23 _ (0, 0) _ (heap_alloc_new w3 _) Tryf.underlying23 rfl (size_nums xs HX.out) ?_)
        | (refine wpList_load_row rfl 22 (.tmp 1) rfl w.heap.size rfl 22 _ (0, 0) _ ((heap_alloc_old w3 _ hlt3).trans HB3.out) Tryf.underlying22 rfl (size_nums22 xs HX.out) ?_))
      go_ret
      exact ⟨rfl, HL3.out.alloc (by omega) _⟩
#print axioms trip_walk
end Go.Proofs.Qxb6608797aFmt

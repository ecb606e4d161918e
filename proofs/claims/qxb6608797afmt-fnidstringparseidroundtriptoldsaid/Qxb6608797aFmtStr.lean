import Derived.Test.Qxb6608797aFmtEnc
namespace Go.Proofs.Qxb6608797aFmt
open Go.RowKit

theorem Tryf.info5 : (Tryf.prog.info? 5).map (fun i => (i.zero, i.size, i.bytes)) = some (some (.int .u8 0), 1, 1) := by kernel_rfl

/-- 64 zeros, behind a name. -/
def z64 : List Int := List.replicate 64 0
theorem z64_len : z64.length = 64 := by unfold z64; simp

theorem made_eq (n : Nat) : madeCells #[.int .u8 0] n = ((List.replicate n (0 : Int)).map (Value.int .u8)).toArray := by
  apply Array.ext_getElem?
  intro i
  simp only [madeCells, List.getElem?_toArray, List.map_replicate]
  by_cases h : i < n
  · simp [h, Nat.mod_one]
  · simp [h]

theorem made64 : madeCells #[.int .u8 0] 64 = (z64.map (Value.int .u8)).toArray := made_eq 64

theorem make64 (w : World) : (Instr.makeSlice 31 (.int .i64 64) (.int .i64 64)).run Tryf.prog w = .ok (.slice (some ⟨w.heap.size, 0, none⟩) 64 64) (w.alloc (.cells (z64.map (Value.int .u8)).toArray 5)) := by
  have h := run_make_row' (P := Tryf.prog) 31 5 (.int .u8 0) 1 Tryf.underlying31 Tryf.info5 rfl .i64 .i64 64 (by omega) (by omega) w
  rw [made64] at h
  exact h

theorem conv31 (W : World) (zs : List Int) (n : Nat) (h : zs.length = n) (b : Nat) (hb : b = W.heap.size) :
    (convert 31 9 (.slice (some ⟨b, 0, none⟩) n n)).run Tryf.prog (W.alloc (.cells (zs.map (Value.int .u8)).toArray 5)) = .ok (.string (strOfNums zs)) (W.alloc (.cells (zs.map (Value.int .u8)).toArray 5)) := by
  refine run_convert_bytes_arg _ 31 5 Tryf.underlying31 Tryf.underlying5 b 0 n n zs h ?_ 9 Tryf.underlying9
  intro i hi
  rw [World.cell?_alloc_at (hn := hb)]
  have hl : i < zs.length := by omega
  rw [List.getElem?_toArray, List.getElem?_map, Nat.zero_add]
  simp only [List.getD_eq_getElem?_getD, List.getElem?_eq_getElem hl, Option.map_some, Option.getD_some]

set_option maxRecDepth 100000 in
set_option maxHeartbeats 1000000 in
/-- EncodeToString of 32 bytes. -/
theorem ets_any (W : World) (b off cap : Nat) (xs : List Int) (hx : xs.length = 32) (hb : b < W.heap.size) (hr : ∀ x ∈ xs, 0 ≤ x ∧ x ≤ 255) (hc : ∀ i, i < 32 → W.cell? ⟨b, off + i, none⟩ = some (.int .u8 (xs.getD i 0))) :
    Calls Tryf.prog 7 #[.slice (some ⟨b, off, none⟩) 32 cap] W fun e w' =>
      e = .returned (.string (strOfNums (hexL xs))) ∧ w' = W.alloc (.cells ((hexL xs).map (Value.int .u8)).toArray 5) := by
  have hmk := make64
  have hcv := conv31 W (hexL xs) 64 (by rw [hexL_len, hx]) W.heap.size rfl
  have HX : Hid (xs.length = 32) := hx
  have HR : Hid (∀ x ∈ xs, 0 ≤ x ∧ x ≤ 255) := hr
  have HC : Hid (∀ i, i < 32 → W.cell? ⟨b, off + i, none⟩ = some (.int .u8 (xs.getD i 0))) := hc
  clear hx hr hc
  go_enter Tryf.func7, Tryf.ntmps7
  go_wp2_with (first | (go_at_call 11; refine (enc_any W b off cap xs z64 HX.out z64_len hb HR.out HC.out).mono ?_; rintro e w' ⟨rfl, rfl⟩) | go_in)
  go_ret
  exact ⟨rfl, rfl⟩

theorem slice23 (b : Nat) (W : World) : (Instr.sliceAt 23 (.pointer (some ⟨b, 0, none⟩)) none none none).run Tryf.prog W = .ok (.slice (some ⟨b, 0, none⟩) 32 32) W := by
  have hal : Tryf.prog.arrayLen 23 = 32 := by simp [Program.arrayLen, Tryf.underlying23]
  have hel : Tryf.prog.elem 23 = 5 := by simp [Program.elem, Tryf.underlying23]
  rw [run_sliceAt_array_all W 23 ⟨b, 0, none⟩ (by rw [hal, hel]; exact Tryf.underlying23), hel, hal]
  simp [go_sem, slicedAt, Addr.add]

set_option maxRecDepth 100000 in
set_option maxHeartbeats 1000000 in
/-- (ID).String. -/
theorem str_any (w : World) (xs : List Int) (hx : xs.length = 32) (hr : ∀ x ∈ xs, 0 ≤ x ∧ x ≤ 255) :
    Calls Tryf.prog 5 #[.agg (xs.map (Value.int .u8)).toArray] w fun e w' =>
      e = .returned (.string (strOfNums (hexL xs))) ∧ Below w.heap.size w w' := by
  have hsl := slice23
  have HX : Hid (xs.length = 32) := hx
  have HR : Hid (∀ x ∈ xs, 0 ≤ x ∧ x ≤ 255) := hr
  clear hx hr
  go_enter Tryf.func5, Tryf.ntmps5
  go_wp2_with fail
  refine (ets_any (w.alloc (.cells (xs.map (Value.int .u8)).toArray 23)) w.heap.size 0 32 xs HX.out (by simp) HR.out ?_).mono ?_
  · intro i hi
    rw [World.cell?_alloc_at (hn := rfl), Nat.zero_add, List.getElem?_toArray, List.getElem?_map]
    have hl : i < xs.length := by have := HX.out; omega
    simp [List.getD_eq_getElem?_getD, List.getElem?_eq_getElem hl]
  rintro e w' ⟨rfl, rfl⟩
  go_wp2_with fail
  go_ret
  exact ⟨rfl, ((Below.refl _ _).alloc (Nat.le_refl _) _).alloc (by simp) _⟩
#print axioms str_any
end Go.Proofs.Qxb6608797aFmt

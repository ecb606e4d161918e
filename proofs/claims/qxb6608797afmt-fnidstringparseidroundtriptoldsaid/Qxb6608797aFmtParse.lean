import Derived.Test.Qxb6608797aFmtDec
import Derived.Laws.IdiomStrings
import Derived.Deep.WholeRow
namespace Go.Proofs.Qxb6608797aFmt
open Go.RowKit

theorem el_32 (w : World) : Calls Tryf.prog 8 #[.int .i64 32] w fun e w' => e = .returned (.int .i64 64) ∧ w' = w := by
  go_enter Tryf.func8, Tryf.ntmps8
  go_wp2
  go_ret
  exact ⟨rfl, rfl⟩

/-- The world behind '[]byte(s)', behind a name. -/
def convW (w : World) (s : ByteArray) : World :=
  w.drew.alloc (.cells (bytesRow s (grownCap w s.size 0 5)) 5 ((bytesRow s (grownCap w s.size 0 5)).size, (bytesRow s (grownCap w s.size 0 5)).size + 1))
/-- Its capacity, behind a name. -/
def convC (w : World) (s : ByteArray) : Nat := grownCap w s.size 0 5

theorem conv_run (s : ByteArray) (w : World) : (convert 9 31 (.string s)).run Tryf.prog w = .ok (.slice (some ⟨w.heap.size, 0, none⟩) s.size (convC w s)) (convW w s) :=
  run_bytes_of_string (P := Tryf.prog) w 9 31 5 s Tryf.underlying9 Tryf.underlying31 Tryf.underlying5

theorem conv_below (w : World) (s : ByteArray) : Below w.heap.size w (convW w s) := ((Below.refl _ w).drew).alloc (Nat.le_refl _) _

theorem conv_size (w : World) (s : ByteArray) : (convW w s).heap.size = w.heap.size + 1 := by
  unfold convW
  show (w.heap.push _).size = _
  simp

theorem conv_cell (w : World) (s : ByteArray) (i : Nat) (hi : i < s.size) : (convW w s).cell? ⟨w.heap.size, i, none⟩ = some (.int .u8 ((s[i]'hi).toNat : Int)) := by
  have h : (convW w s).heap[w.heap.size]? = some (.cells (bytesRow s (grownCap w s.size 0 5)) 5 ((bytesRow s (grownCap w s.size 0 5)).size, (bytesRow s (grownCap w s.size 0 5)).size + 1)) := by
    unfold convW
    show (w.heap.push _)[w.heap.size]? = _
    simp
  rw [cell_of_row _ _ i _ 5 _ h]
  unfold bytesRow
  rw [Array.getElem?_append_left (by simpa using hi)]
  simp
  exact ⟨s[i], by rw [Array.getElem?_eq_getElem (by simpa using hi)]; rfl, rfl⟩

/-- 32 zeros, behind a name. -/
def z32 : Array Value := ((List.replicate 32 (0 : Int)).map (Value.int .u8)).toArray

theorem z32_lit : (#[.int .u8 0, .int .u8 0, .int .u8 0, .int .u8 0, .int .u8 0, .int .u8 0, .int .u8 0, .int .u8 0, .int .u8 0, .int .u8 0, .int .u8 0, .int .u8 0, .int .u8 0, .int .u8 0, .int .u8 0, .int .u8 0, .int .u8 0, .int .u8 0, .int .u8 0, .int .u8 0, .int .u8 0, .int .u8 0, .int .u8 0, .int .u8 0, .int .u8 0, .int .u8 0, .int .u8 0, .int .u8 0, .int .u8 0, .int .u8 0, .int .u8 0, .int .u8 0] : Array Value) = z32 := rfl
theorem z32_size : z32.size = 32 := rfl

theorem Tryf.size23 : (Tryf.prog.info? 23).map (·.size) = some 32 := by kernel_rfl

theorem size_nums (xs : List Int) (h : xs.length = 32) : (Tryf.prog.info? 23).map (·.size) = some ((xs.map (Value.int .u8)).toArray).size := by
  rw [Tryf.size23]; simp [h]

theorem one_nums (xs : List Int) : ((xs.map (Value.int .u8)).toArray).all (·.oneCell') = true := by
  rw [Array.all_eq_true_iff_forall_mem]
  intro v hv
  simp at hv
  obtain ⟨a, _, rfl⟩ := hv
  rfl

theorem below_row {w w' : World} (h : Below w.heap.size w w') (cs : Array Value) : Below w.heap.size w (w'.setRow w.heap.size cs) :=
  h.trans ⟨rfl, rfl, rfl, by simp, fun k hk => setRow_other w' w.heap.size k cs (by omega)⟩

set_option maxRecDepth 100000 in
set_option maxHeartbeats 2000000 in
theorem parse_any (w : World) (s : ByteArray) (xs : List Int) (hsz : s.size = 64) (hx : xs.length = 32)
    (hs : ∀ k, (hk : k < 32) → unhex (s[2 * k]'(by omega)).toNat < 16 ∧ unhex (s[2 * k + 1]'(by omega)).toNat < 16 ∧ 16 * (unhex (s[2 * k]'(by omega)).toNat : Int) + (unhex (s[2 * k + 1]'(by omega)).toNat : Int) = xs.getD k 0) :
    Calls Tryf.prog 6 #[.string s] w fun e w' => e = .returned (.tuple #[.agg (xs.map (Value.int .u8)).toArray, .nilIface]) ∧ Below w.heap.size w w' := by
  have HX : Hid (xs.length = 32) := hx
  have HSZ : Hid (s.size = 64) := hsz
  have HS : Hid _ := hs
  clear hx
  have hsl := slice23
  have hcv := conv_run s
  rw [hsz] at hcv
  have hl : (s.size : Int) = 64 := by omega
  clear hs
  go_enter Tryf.func6, Tryf.ntmps6
  go_wp2_with fail
  refine (el_32 _).mono ?_
  rintro e w1 ⟨rfl, rfl⟩
  go_wp2_with fail
  rw [z32_lit]
  have hb1 : Below w.heap.size w (convW ((w.alloc (.cells z32 23)).alloc (.cells z32 23)) s) :=
    (((Below.refl _ _).alloc (Nat.le_refl _) _).alloc (by simp) _).trans ((conv_below _ s).mono (by simp; omega))
  have hD : (convW ((w.alloc (.cells z32 23)).alloc (.cells z32 23)) s).heap[w.heap.size + 1]? = some (.cells ((List.replicate 32 (0 : Int)).map (Value.int .u8)).toArray 23 (0, 0)) := by
    rw [(conv_below _ s).block _ (by simp)]
    exact heap_alloc2_new w _ _
  have hR : (convW ((w.alloc (.cells z32 23)).alloc (.cells z32 23)) s).heap[w.heap.size]? = some (.cells z32 23 (0, 0)) := by
    rw [(conv_below _ s).block _ (by simp; omega)]
    exact heap_alloc2_old w _ _
  have hcell : ∀ i, (hi : i < s.size) → (convW ((w.alloc (.cells z32 23)).alloc (.cells z32 23)) s).cell? ⟨w.heap.size + 1 + 1, i, none⟩ = some (.int .u8 ((s[i]'hi).toNat : Int)) := by
    intro i hi
    have := conv_cell ((w.alloc (.cells z32 23)).alloc (.cells z32 23)) s i hi
    simpa using this
  generalize convW ((w.alloc (.cells z32 23)).alloc (.cells z32 23)) s = X at *
  generalize convC ((w.alloc (.cells z32 23)).alloc (.cells z32 23)) s = C at *
  refine (dec_any X (w.heap.size + 1) (w.heap.size + 1 + 1) C xs (List.replicate 32 0) HX.out (by simp) hD (by omega) ?_).mono ?_
  · intro k hk
    have h := HS.out k hk
    refine ⟨_, _, UInt8.toNat_lt _, UInt8.toNat_lt _, hcell (2 * k) (by omega), hcell (2 * k + 1) (by omega), h.1, h.2.1, h.2.2⟩
  rintro e w4 ⟨rfl, hD4, hg4⟩
  have hlt : w.heap.size < X.heap.size := (Array.getElem?_eq_some_iff.1 hR).1
  have hR4 : w4.heap[w.heap.size]? = some (.cells z32 23 (0, 0)) := (hg4.block _ hlt (by simp)).trans hR
  have hb4 : Below w.heap.size w w4 := hb1.grown hg4 (by omega) (fun k h => by simp at h; omega)
  have HD4 : Hid (w4.heap[w.heap.size + 1]? = some (.cells (xs.map (Value.int .u8)).toArray 23 (0, 0))) := hD4
  have HR4 : Hid (w4.heap[w.heap.size]? = some (.cells z32 23 (0, 0))) := hR4
  have HB4 : Hid (Below w.heap.size w w4) := hb4
  clear hD hR hcell hb1 hD4 hg4 hlt hR4 hb4 hsl hcv HS
  go_wp2_with (first | (refine wpList_load_row rfl 23 (.tmp 4) rfl (w.heap.size + 1) rfl 23 _ (0, 0) _ HD4.out Tryf.underlying23 rfl (size_nums xs HX.out) ?_) | (refine wpList_store_row rfl 23 (.tmp 2) (.tmp 20) rfl w.heap.size _ rfl rfl 23 z32 HR4.out (size_nums xs HX.out) (by rw [z32_size]; simp [HX.out]) (one_nums xs) ?_))
  have hlv := run_loadVar_row (P := Tryf.prog) (w4.setRow w.heap.size (xs.map (Value.int .u8)).toArray) w.heap.size 23 23 _ (0, 0) _ (setRow_heap w4 w.heap.size z32 _ 23 (0, 0) HR4.out) Tryf.underlying23 rfl (size_nums xs HX.out)
  refine bodyPost_ret (v := .tuple #[.agg (xs.map (Value.int .u8)).toArray, .nilIface]) ?_ rfl ⟨rfl, below_row HB4.out _⟩
  simp [results, Tryf.results6, asAddr, hlv]
#print axioms parse_any
end Go.Proofs.Qxb6608797aFmt

import Derived.Test.Qxb6608797aFmtHex
namespace Go.Proofs.Qxb6608797aFmt
open Go.RowKit

/-- b so far: its first k bytes stand for the digits that S's do. -/
def mixRel (S : ByteArray) (zs : List Int) (k : Nat) : Prop := zs.length = 64 ∧ ∀ j, (hj : j < S.size) → j < k → unhex (zs.getD j 0).toNat = unhex (S[j]'hj).toNat ∧ 0 ≤ zs.getD j 0 ∧ zs.getD j 0 ≤ 255

theorem mixRel_step {S : ByteArray} {zs : List Int} {k : Nat} (h : mixRel S zs k) (hk : k < 64) (v : Int) (hv : ∀ hj : k < S.size, unhex v.toNat = unhex (S[k]'hj).toNat) (h0 : 0 ≤ v) (h1 : v ≤ 255) : mixRel S (zs.set k v) (k + 1) := by
  refine ⟨by simp [h.1], fun j hj hlt => ?_⟩
  have hl : k < zs.length := by rw [h.1]; exact hk
  by_cases e : k = j
  · subst e
    have : (zs.set k v).getD k 0 = v := by simp [List.getD_eq_getElem?_getD, hl]
    rw [this]
    exact ⟨hv hj, h0, h1⟩
  · have : (zs.set k v).getD j 0 = zs.getD j 0 := by
      simp only [List.getD_eq_getElem?_getD]
      rw [List.getElem?_set_ne e]
    rw [this]
    exact h.2 j hj (by omega)

theorem unhex_up (c : Nat) (h0 : 97 ≤ c) (h1 : c ≤ 102) : unhex (c - 32) = unhex c := by
  unfold unhex
  rw [if_neg (by omega), if_neg (by omega), if_pos (by omega), if_neg (by omega), if_pos (by omega)]
  omega

theorem mix_reads (S : ByteArray) (xs zs : List Int) (hsz : S.size = 64) (hm : mixRel S zs 64)
    (hf : ∀ k, k < 32 → (h1 : 2 * k < S.size) → (h2 : 2 * k + 1 < S.size) → unhex (S[2 * k]'h1).toNat < 16 ∧ unhex (S[2 * k + 1]'h2).toNat < 16 ∧ 16 * (unhex (S[2 * k]'h1).toNat : Int) + (unhex (S[2 * k + 1]'h2).toNat : Int) = xs.getD k 0) :
    ∀ k, k < 32 → (h1 : 2 * k < (strOfNums zs).size) → (h2 : 2 * k + 1 < (strOfNums zs).size) →
      unhex ((strOfNums zs)[2 * k]'h1).toNat < 16 ∧ unhex ((strOfNums zs)[2 * k + 1]'h2).toNat < 16 ∧ 16 * (unhex ((strOfNums zs)[2 * k]'h1).toNat : Int) + (unhex ((strOfNums zs)[2 * k + 1]'h2).toNat : Int) = xs.getD k 0 := by
  intro k hk h1 h2
  have a1 := hm.2 (2 * k) (by omega) (by omega)
  have a2 := hm.2 (2 * k + 1) (by omega) (by omega)
  have b1 := nums_at zs (2 * k) h1 a1.2
  have b2 := nums_at zs (2 * k + 1) h2 a2.2
  have c := hf k hk (by omega) (by omega)
  rw [← a1.1, ← a2.1, ← b1, ← b2, Int.toNat_natCast, Int.toNat_natCast] at c
  exact c

/-- A whole array loaded, the operation's guard saying yes. -/
theorem wpList_load_row_yes {P : Program} {ops : Array Oper} {rest : List Oper} {o : Oper} {a : Act} {w : World} {Q : Exit → Act → World → Prop} (hw : Region.wanted o (yielded ops a.tmps) = true) (ty : TypeId) (x : Operand) (ho : o.op = .load ty x)
    (g : Nat) (hx : a.eval x = .pointer (some ⟨g, 0, none⟩)) (t : TypeId) (cs : Array Value) (fr : Nat × Nat) (d : TypeDesc) (hg : w.heap[g]? = some (.cells cs t fr))
    (hu : P.underlying ty = some d) (hd : (match d with | .struct _ | .array _ _ => true | _ => false) = true) (hi : (P.info? ty).map (·.size) = some cs.size)
    (h : wpList P ops Q rest (a.put o.dst (.agg cs)) w) : wpList P ops Q (o :: rest) a w :=
  wpList_step fun K hK => by
    rw [if_pos hw]
    exact wp_load_row ty x ho g hx t cs fr d hg hu hd hi (hK _ _ h)

set_option maxRecDepth 100000 in
set_option maxHeartbeats 2000000 in
theorem mix_walk (w : World) (xs : List Int) (up : Int) (hx : xs.length = 32) (hr : ∀ x ∈ xs, 0 ≤ x ∧ x ≤ 255) (_hu : 0 ≤ up ∧ up ≤ 18446744073709551615) :
    Calls Tryf.prog 4 #[.agg (xs.map (Value.int .u8)).toArray, .int .u64 up] w fun e w' => e = .returned (.bool true) ∧ Below w.heap.size w w' := by
  have heq := eq22 xs hx
  have HX : Hid (xs.length = 32) := hx
  have HR : Hid (∀ x ∈ xs, 0 ≤ x ∧ x ≤ 255) := hr
  have hsz := hex_size xs hx
  have HLOW : Hid _ := hex_low xs hx hr
  have HF : Hid _ := hex_reads xs hx hr
  have hmk := make64
  clear hx hr
  go_enter Tryf.func4, Tryf.ntmps4
  go_wp2_with (first | (refine wpList_load_row rfl 22 (.tmp 2) rfl w.heap.size rfl 22 _ (0, 0) _ (heap_alloc_new w _) Tryf.underlying22 rfl (size_nums22 xs HX.out) ?_))
  refine (str_any _ xs HX.out HR.out).mono ?_
  rintro e w2 ⟨rfl, hb⟩
  have hB2 : w2.heap[w.heap.size]? = some (.cells (xs.map (Value.int .u8)).toArray 22 (0, 0)) := (hb.block _ (by simp)).trans (heap_alloc_new w _)
  have hb2 : Below w.heap.size w w2 := ((Below.refl _ _).alloc (Nat.le_refl _) _).trans (hb.mono (by simp))
  have HB2 : Hid (w2.heap[w.heap.size]? = some (.cells (xs.map (Value.int .u8)).toArray 22 (0, 0))) := hB2
  have HL2 : Hid (Below w.heap.size w w2) := hb2
  clear hb hB2 hb2
  generalize strOfNums (hexL xs) = S at *
  have hl : (S.size : Int) = 64 := by omega
  go_wp2_with fail
  clear hmk
  go_loopw [7] (fun c wr => ∃ (k : Nat) (zs : List Int), k ≤ 64 ∧ c = .int .i64 (k : Int) ∧ zs.length = 64 ∧ Hid (mixRel S zs k) ∧ wr = w2.alloc (.cells (zs.map (Value.int .u8)).toArray 5)) (fun c _ => 64 - (intOf c).toNat)
  case atStart => exact ⟨0, z64, by omega, rfl, z64_len, ⟨z64_len, fun j _ h => absurd h (Nat.not_lt_zero j)⟩, rfl⟩
  case round =>
    obtain ⟨k, zs, hk, rfl, hzl, HM, rfl⟩ := hrel
    by_cases hlt : k < 64
    · have hks : k < S.size := by omega
      have hd := HLOW.out k hks
      have hcb : (S[k]'hks).toNat < 256 := UInt8.toNat_lt _
      obtain ⟨q, hq⟩ : ∃ q, zs[k]? = some q := ⟨zs[k]'(by omega), by simp⟩
      go_wp2_with fail
      · go_roundw
        case rel => exact ⟨k + 1, _, by omega, by go_num, by simp [hzl], mixRel_step HM.out hlt ((S[k].toNat : Int) - 97 + 65) (fun hj => by rw [show ((S[k].toNat : Int) - 97 + 65).toNat = S[k].toNat - 32 by omega]; exact unhex_up _ (by omega) (by omega)) (by omega) (by omega), by rw [List.map_set]⟩
        case measure => simp [intOf]; omega
      · go_roundw
        case rel => exact ⟨k + 1, _, by omega, by go_num, by simp [hzl], mixRel_step HM.out hlt (S[k].toNat : Int) (fun hj => by rw [Int.toNat_natCast]) (by omega) (by omega), by rw [List.map_set]⟩
        case measure => simp [intOf]; omega
      · go_roundw
        case rel => exact ⟨k + 1, _, by omega, by go_num, by simp [hzl], mixRel_step HM.out hlt (S[k].toNat : Int) (fun hj => by rw [Int.toNat_natCast]) (by omega) (by omega), by rw [List.map_set]⟩
        case measure => simp [intOf]; omega
    · have HM64 : Hid (mixRel S zs 64) := by
        have e : k = 64 := by omega
        rw [e] at HM; exact HM
      have hcv := conv31 w2 zs 64 hzl w2.heap.size rfl
      have HRD : Hid _ := mix_reads S xs zs hsz HM64.out HF.out
      have hsz2 : (strOfNums zs).size = 64 := by rw [strOfNums_size, hzl]
      generalize strOfNums zs = T at *
      clear HM HM64 HF HLOW
      go_wp2_with fail
      refine (parse_any (w2.alloc (.cells (zs.map (Value.int .u8)).toArray 5)) T xs hsz2 HX.out (fun k hk => HRD.out k hk (by omega) (by omega))).mono ?_
      rintro e w3 ⟨rfl, hb⟩
      have hlt2 : w.heap.size < w2.heap.size := (Array.getElem?_eq_some_iff.1 HB2.out).1
      have hB3 : w3.heap[w.heap.size]? = some (.cells (xs.map (Value.int .u8)).toArray 22 (0, 0)) := (hb.block _ (by simp; omega)).trans ((heap_alloc_old w2 _ hlt2).trans HB2.out)
      have hlt3 : w.heap.size < w3.heap.size := (Array.getElem?_eq_some_iff.1 hB3).1
      have HL3 : Hid (Below w.heap.size w w3) := (HL2.out.alloc (by omega) _).trans (hb.mono (by simp; omega))
      have HB3 : Hid (w3.heap[w.heap.size]? = some (.cells (xs.map (Value.int .u8)).toArray 22 (0, 0))) := hB3
      clear hb hB3 HRD HL2 HB2 hcv
      go_wp2_with (first
        | (refine wpList_store_row rfl 23 (.tmp 9) (.tmp 49) rfl w3.heap.size _ rfl rfl 23 _ (heap_alloc_new w3 _) (size_nums xs HX.out) (by simp [HX.out]) (one_nums xs) ?_; rw [World.setRow_alloc_new])
        | (refine wpList_load_row_yes rfl 23 (.tmp 9) rfl w3.heap.size rfl 23 _ (0, 0) _ (heap_alloc_new w3 _) Tryf.underlying23 rfl (size_nums xs HX.out) ?_)
        | (refine wpList_load_row_yes rfl 22 (.tmp 2) rfl w.heap.size rfl 22 _ (0, 0) _ ((heap_alloc_old w3 _ hlt3).trans HB3.out) Tryf.underlying22 rfl (size_nums22 xs HX.out) ?_))
      go_ret
      exact ⟨rfl, HL3.out.alloc (by omega) _⟩
#print axioms mix_walk
end Go.Proofs.Qxb6608797aFmt

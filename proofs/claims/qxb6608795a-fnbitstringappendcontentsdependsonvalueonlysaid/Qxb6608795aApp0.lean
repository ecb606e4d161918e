import Derived.Test.Qxb6608795aApp
namespace Go.Proofs.Qxb6608795a
open Go.RowKit

set_option maxHeartbeats 1000000 in
theorem app_neg (va : Option Addr) (vlen vcap : Nat) (L : Int) (ba : Option Addr) (blen : Nat) (bs : List Int) (w : World)
    (hb : Rd w ba blen bs) (hL1 : -9223372036854775808 ≤ L) (hL : L ≤ 0) (hvl : vlen ≤ 2097152) (hbl : blen ≤ 2097152) (hvn : va = none → vlen = 0 ∧ vcap = 0) (hbn : ba = none → blen = 0) :
    Calls Try.prog 7 #[.agg #[.slice va vlen vcap, .int .i64 L], .slice ba blen blen] w fun e w' =>
      ∃ v, e = .returned v ∧ w'.ownsRow w.heap.size 5 1 v (blen + 1) ((bs ++ [(0 : Int)]).map (Value.int .u8)) ∧ Below w.heap.size w w' := by
  obtain ⟨i0, hi, hz0, hz1, hz2⟩ := info_parts Try.info5
  have HVN : Hid (va = none → vlen = 0 ∧ vcap = 0) := hvn
  have HBN : Hid (ba = none → blen = 0) := hbn
  have HBL : Hid (bs.length = blen) := hb.1
  rcases (show L < 0 ∨ L = 0 by omega) with hl | hl
  · have HB2 : Hid (Rd ((w.alloc (.cells #[.slice va vlen vcap, .int .i64 L] 26)).alloc (.cells #[.int .u8 0] 5)) ba blen bs) := hb.below (box_world w va vlen vcap _ 0)
    clear hb hvn hbn
    go_enter Try.func7, Try.ntmps7
    go_wp2_with (at_builtin; (refine wpList_append_grows _ rfl (.tmp 20) (.tmp 22) 22 rfl 5 i0 (.int .u8 0) 1 1 Try.underlying22 hi hz0 hz1 hz2 rfl (by decide) ba blen blen (bs.map (Value.int .u8)) rfl (fun h => ⟨HBN.out h, HBN.out h⟩) (by simpa using HBL.out) (holds_of_rd HB2.out) ⟨w.heap.size + 1, 0, none⟩ 1 1 [.int .u8 0] rfl rfl (by intro j x hj; match j, hj with | 0, hj => simp at hj; subst hj; simp [Addr.add]) (by intro x hx; simp at hx; subst hx; rfl) (by omega) (by unfold maxLen; omega) (by omega) ?_))
    intro v1 w1 hown1 hgrow1
    have HO1 : Hid (w1.ownsRow (w.heap.size + 2) 5 1 v1 (blen + 1) ((bs ++ [(0 : Int)]).map (Value.int .u8))) := by unfold Hid; simpa using hown1
    have hbel1 := below_of_grown hgrow1 (B := w.heap.size + 2) (by simp) (fun k h => by cases h)
    have hc0 : w1.cell? ⟨w.heap.size, 0, none⟩ = some (.slice va vlen vcap) := by
      rw [hbel1.cell (p := ⟨w.heap.size, 0, none⟩) (by show w.heap.size < w.heap.size + 2; omega), World.cell?_alloc_past (hn := by simp), World.cell?_alloc_at (hn := rfl)]
      rfl
    have HL1 : Hid (Below w.heap.size w w1) := (box_world w va vlen vcap _ 0).trans (hbel1.mono (by omega))
    have hs1 : w.heap.size + 2 ≤ w1.heap.size := by have := hbel1.size; simpa using this
    clear hown1 hgrow1 hbel1 HB2
    go_wp2_with (at_builtin; (refine wpList_append_own_any _ rfl (.tmp 32) (.tmp 33) 22 rfl (w.heap.size + 2) 5 i0 (.int .u8 0) 1 1 Try.underlying22 hi hz0 hz1 hz2 rfl (by decide) v1 (blen + 1) _ rfl HO1.out va 0 vcap [] rfl rfl (fun h => by have := HVN.out h; omega) (fun ad _ j x hx => by simp at hx) (fun x hx => by cases hx) (by unfold maxLen; omega) (by omega) (by omega) ?_))
    intro v2 w2 hown2 hgrow2
    have HO2 : Hid (w2.ownsRow (w.heap.size + 2) 5 1 v2 (blen + 1) ((bs ++ [(0 : Int)]).map (Value.int .u8))) := by unfold Hid; simpa using hown2
    have hbel2 := below_of_grown hgrow2 (B := w.heap.size + 1) (by omega) (fun k h => by have := HO1.out.lt k h; omega)
    have HL2 : Hid (Below w.heap.size w w2) := HL1.out.trans (hbel2.mono (by omega))
    clear hown2 hgrow2 hbel2 HL1 HO1 hc0 hs1
    go_wp2_with fail
    refine wp_loop_rounds 1 ?_
    rw [rounds_succ]
    go_wp2_with fail
    go_ret
    exact ⟨_, rfl, ownsRow_base HO2.out (by omega), HL2.out⟩
  · subst hl
    have HB2 : Hid (Rd ((w.alloc (.cells #[.slice va vlen vcap, .int .i64 0] 26)).alloc (.cells #[.int .u8 0] 5)) ba blen bs) := hb.below (box_world w va vlen vcap _ 0)
    clear hb hvn hbn
    go_enter Try.func7, Try.ntmps7
    go_wp2_with (at_builtin; (refine wpList_append_grows _ rfl (.tmp 20) (.tmp 22) 22 rfl 5 i0 (.int .u8 0) 1 1 Try.underlying22 hi hz0 hz1 hz2 rfl (by decide) ba blen blen (bs.map (Value.int .u8)) rfl (fun h => ⟨HBN.out h, HBN.out h⟩) (by simpa using HBL.out) (holds_of_rd HB2.out) ⟨w.heap.size + 1, 0, none⟩ 1 1 [.int .u8 0] rfl rfl (by intro j x hj; match j, hj with | 0, hj => simp at hj; subst hj; simp [Addr.add]) (by intro x hx; simp at hx; subst hx; rfl) (by omega) (by unfold maxLen; omega) (by omega) ?_))
    intro v1 w1 hown1 hgrow1
    have HO1 : Hid (w1.ownsRow (w.heap.size + 2) 5 1 v1 (blen + 1) ((bs ++ [(0 : Int)]).map (Value.int .u8))) := by unfold Hid; simpa using hown1
    have hbel1 := below_of_grown hgrow1 (B := w.heap.size + 2) (by simp) (fun k h => by cases h)
    have hc0 : w1.cell? ⟨w.heap.size, 0, none⟩ = some (.slice va vlen vcap) := by
      rw [hbel1.cell (p := ⟨w.heap.size, 0, none⟩) (by show w.heap.size < w.heap.size + 2; omega), World.cell?_alloc_past (hn := by simp), World.cell?_alloc_at (hn := rfl)]
      rfl
    have HL1 : Hid (Below w.heap.size w w1) := (box_world w va vlen vcap _ 0).trans (hbel1.mono (by omega))
    have hs1 : w.heap.size + 2 ≤ w1.heap.size := by have := hbel1.size; simpa using this
    clear hown1 hgrow1 hbel1 HB2
    go_wp2_with (at_builtin; (refine wpList_append_own_any _ rfl (.tmp 32) (.tmp 33) 22 rfl (w.heap.size + 2) 5 i0 (.int .u8 0) 1 1 Try.underlying22 hi hz0 hz1 hz2 rfl (by decide) v1 (blen + 1) _ rfl HO1.out va 0 vcap [] rfl rfl (fun h => by have := HVN.out h; omega) (fun ad _ j x hx => by simp at hx) (fun x hx => by cases hx) (by unfold maxLen; omega) (by omega) (by omega) ?_))
    intro v2 w2 hown2 hgrow2
    have HO2 : Hid (w2.ownsRow (w.heap.size + 2) 5 1 v2 (blen + 1) ((bs ++ [(0 : Int)]).map (Value.int .u8))) := by unfold Hid; simpa using hown2
    have hbel2 := below_of_grown hgrow2 (B := w.heap.size + 1) (by omega) (fun k h => by have := HO1.out.lt k h; omega)
    have HL2 : Hid (Below w.heap.size w w2) := HL1.out.trans (hbel2.mono (by omega))
    clear hown2 hgrow2 hbel2 HL1 HO1 hc0 hs1
    go_wp2_with fail
    refine wp_loop_rounds 1 ?_
    rw [rounds_succ]
    go_wp2_with fail
    go_ret
    exact ⟨_, rfl, ownsRow_base HO2.out (by omega), HL2.out⟩

/-- How many octets Len takes. -/
def nOct (L : Int) : Nat := ((max L 0 + 7) / 8).toNat
/-- .. and how many bits of the last are unused. -/
def unU (L : Int) : Nat := (8 * (nOct L : Int) - max L 0).toNat

theorem nOct_facts (L : Int) (hL2 : L ≤ 524288) : nOct L ≤ 65536 ∧ unU L < 8 ∧ (max L 0 : Int) + (unU L : Int) = 8 * (nOct L : Int) := by
  unfold unU nOct; omega

/-- AppendContents: b, then the count of unused bits, then the octets; in new memory. -/
theorem app_any (va : Option Addr) (vlen vcap : Nat) (vs : List Int) (L : Int) (ba : Option Addr) (blen : Nat) (bs : List Int) (w : World)
    (hv : Rd w va vlen vs) (hb : Rd w ba blen bs) (hL1 : -9223372036854775808 ≤ L) (hL2 : L ≤ 524288) (hvl : vlen ≤ 2097152) (hvc : vlen ≤ vcap) (hbl : blen ≤ 2097152) (hvn : va = none → vlen = 0 ∧ vcap = 0) (hbn : ba = none → blen = 0) :
    Calls Try.prog 7 #[.agg #[.slice va vlen vcap, .int .i64 L], .slice ba blen blen] w fun e w' =>
      ∃ v, e = .returned v ∧ w'.ownsRow w.heap.size 5 1 v (blen + 1 + nOct L) ((bs ++ (unU L : Int) :: octs vs (nOct L) (unU L)).map (Value.int .u8)) ∧ Below w.heap.size w w' := by
  by_cases hL : 0 < L
  · exact app_pos va vlen vcap vs L ba blen bs w hv hb hL2 hvl hvc hbl hvn hbn hL (nOct L) (unU L) (by unfold nOct; omega) (by unfold unU nOct; omega)
  · have e1 : nOct L = 0 := by unfold nOct; omega
    have e2 : unU L = 0 := by unfold unU; rw [e1]; omega
    have e3 : (bs ++ ((unU L : Nat) : Int) :: octs vs (nOct L) (unU L)) = bs ++ [(0 : Int)] := by
      have e4 : octs vs 0 0 = [] := List.eq_nil_of_length_eq_zero (by unfold octs; rw [List.length_set, body_len])
      rw [e1, e2, e4]; rfl
    rw [e3, e1]
    exact app_neg va vlen vcap L ba blen bs w hb hL1 (by omega) hvl hbl hvn hbn
#print axioms app_any
end Go.Proofs.Qxb6608795a

import Derived.Test.Qxb6608795aIn
import Derived.Test.Qxb6608795aBits
namespace Go.Proofs.Qxb6608795a.fnBitStringAppendContentsBitByBit
open Go.RowKit

theorem got_before (bs os : List Int) (u : Nat) (i : Nat) (hi : i < bs.length) : (bs ++ (u : Int) :: os).getD i 0 = bs.getD i 0 := by
  simp only [List.getD_eq_getElem?_getD]
  rw [List.getElem?_append_left hi]

theorem got_u (bs os : List Int) (u : Nat) : (bs ++ (u : Int) :: os).getD bs.length 0 = (u : Int) := by
  simp only [List.getD_eq_getElem?_getD]
  rw [List.getElem?_append_right (Nat.le_refl _)]
  simp

theorem got_oct (bs os : List Int) (u : Nat) (q : Nat) : (bs ++ (u : Int) :: os).getD (bs.length + 1 + q) 0 = os.getD q 0 := by
  simp only [List.getD_eq_getElem?_getD]
  rw [List.getElem?_append_right (by omega), show bs.length + 1 + q - bs.length = q + 1 by omega, List.getElem?_cons_succ]

theorem below_draws {B : Nat} {a w : World} (h : Below B a w) (n : Nat) : Below B a (w.drewN n) := h.trans ⟨rfl, rfl, rfl, Nat.le_refl _, fun _ _ => rfl⟩

set_option maxRecDepth 100000 in
set_option maxHeartbeats 2000000 in
theorem walk_in (a0 : Option Addr) (len0 cap0 : Nat) (vs : List Int) (L : Int) (a2 : Option Addr) (len2 cap2 : Nat) (bs : List Int) (w : World)
    (hv : Rd w a0 len0 vs) (hvr : ∀ x ∈ vs, 0 ≤ x ∧ x ≤ 255) (hvn : a0 = none → len0 = 0 ∧ cap0 = 0) (hb : Rd w a2 len2 bs) (hbn : a2 = none → len2 = 0 ∧ cap2 = 0) (hlen : len0 + len2 ≤ 1048576)
    (hL1 : 0 ≤ L) (hL2 : L ≤ 524288) :
    Calls Try.prog 3 #[.slice a0 len0 cap0, .int .i64 L, .slice a2 len2 cap2] w fun e w' => e = .returned (.bool true) ∧ Below w.heap.size w w' := by
  obtain ⟨l, rfl⟩ := Int.eq_ofNat_of_zero_le hL1
  have HV : Hid (Rd w a0 len0 vs) := hv
  have HB : Hid (Rd w a2 len2 bs) := hb
  have HVN : Hid (a0 = none → len0 = 0 ∧ cap0 = 0) := hvn
  have HBN : Hid (a2 = none → len2 = 0 ∧ cap2 = 0) := hbn
  have HVR : Hid (∀ x ∈ vs, 0 ≤ x ∧ x ≤ 255) := hvr
  clear hv hb hvn hbn hvr
  go_enter Try.func3, Try.ntmps3
  go_wp2_with fail
  refine (bytes5 _ _ _ _ _ _ _ _ (by unfold maxLen; omega) (by unfold maxLen; omega)).mono ?_
  rintro e w' ⟨rfl, rfl⟩
  go_wp2_with fail
  refine (clone_any _ _ _ vs _ HV.out (by omega) HVN.out).mono ?_
  rintro e w1 ⟨c0, rfl, hr0, hn0, hb1⟩
  have HB1 : Hid (Rd w1 a2 len2 bs) := HB.out.below hb1
  have HL1 : Hid (Below w'.heap.size w' w1) := hb1
  have HR0 : Hid (Rd w1 c0 len0 vs) := hr0
  have HN0 : Hid (c0 = none → len0 = 0) := hn0
  clear hr0 hn0 hb1 HV HB
  go_wp2_with fail
  refine (clone_any _ _ _ bs _ HB1.out (by omega) HBN.out).mono ?_
  rintro e w2 ⟨c2, rfl, hr0, hn0, hb1⟩
  have HL2 : Hid (Below w'.heap.size w' w2) := HL1.out.trans (hb1.mono HL1.out.size)
  have HR1 : Hid (Rd w2 c0 len0 vs) := HR0.out.below hb1
  have HS1 : Hid (Rd w2 c2 len2 bs) := hr0
  have HN2 : Hid (c2 = none → len2 = 0) := hn0
  clear hr0 hn0 hb1 HR0 HB1 HL1
  go_wp2_with fail
  refine (clone_any _ _ _ vs _ HR1.out (by omega) (fun h => ⟨HN0.out h, HN0.out h⟩)).mono ?_
  rintro e w3 ⟨d0, rfl, hr0, hn0, hb1⟩
  have HL3 : Hid (Below w'.heap.size w' w3) := HL2.out.trans (hb1.mono HL2.out.size)
  have HR2 : Hid (Rd w3 c0 len0 vs) := HR1.out.below hb1
  have HS2 : Hid (Rd w3 c2 len2 bs) := HS1.out.below hb1
  have HD2 : Hid (Rd w3 d0 len0 vs) := hr0
  clear hr0 hn0 hb1 HR1 HS1 HL2
  go_wp2_with fail
  refine (clone_any _ _ _ bs _ HS2.out (by omega) (fun h => ⟨HN2.out h, HN2.out h⟩)).mono ?_
  rintro e w4 ⟨d2, rfl, hr0, hn0, hb1⟩
  have HL4 : Hid (Below w'.heap.size w' w4) := HL3.out.trans (hb1.mono HL3.out.size)
  have HR3 : Hid (Rd w4 c0 len0 vs) := HR2.out.below hb1
  have HS3 : Hid (Rd w4 c2 len2 bs) := HS2.out.below hb1
  have HD3 : Hid (Rd w4 d0 len0 vs) := HD2.out.below hb1
  have HE3 : Hid (Rd w4 d2 len2 bs) := hr0
  clear hr0 hn0 hb1 HR2 HS2 HD2 HL3
  go_wp2_with fail
  refine (app_any c0 len0 len0 vs (l : Int) c2 len2 bs w4 HR3.out HS3.out (by omega) (by omega) (by omega) (Nat.le_refl _) (by omega) (fun h => ⟨HN0.out h, HN0.out h⟩) HN2.out).mono ?_
  rintro e w5 ⟨v, rfl, hown, hb1⟩
  obtain ⟨g, cap, rfl, hg1, hg2, hg3⟩ := ownsRow_shape hown (by omega)
  have hrd := rd_of_owns hown hg2
  obtain ⟨f1, f2, f3⟩ := nOct_facts (l : Int) (by omega)
  rw [show (max (l : Int) 0 : Int) = (l : Int) by omega] at f3
  generalize nOct (l : Int) = n at *
  generalize unU (l : Int) = u at *
  have HL5 : Hid (Below w'.heap.size w' w5) := HL4.out.trans (hb1.mono HL4.out.size)
  have HD : Hid (Rd w5 d0 len0 vs) := HD3.out.below hb1
  have HE : Hid (Rd w5 d2 len2 bs) := HE3.out.below hb1
  have HG : Hid (Rd w5 (some ⟨g, 0, none⟩) (len2 + 1 + n) (bs ++ (u : Int) :: octs vs n u)) := hrd
  have HBL : Hid (bs.length = len2) := HE.out.1
  clear hown hb1 hrd HR3 HS3 HD3 HE3 HL4
  go_wp2_with fail
  go_loopw [11] (fun c wr => ∃ (k q : Nat), k ≤ len2 ∧ c = .int .i64 (k : Int) ∧ wr = w5.drewN q) (fun c _ => len2 - (intOf c).toNat)
  case atStart => exact ⟨0, 0, Nat.zero_le _, rfl, rfl⟩
  case round =>
    obtain ⟨k, q, hk, rfl, rfl⟩ := hrel
    by_cases hlt : k < len2
    · obtain ⟨b, off, rfl, hb, hc⟩ := HE.out.lt (by omega)
      have hck := hc k hlt
      obtain ⟨_, _, e, _, hgk⟩ := HG.out.2 k (by omega)
      simp only [Option.some.injEq, Addr.mk.injEq, and_true] at e
      obtain ⟨rfl, rfl⟩ := e
      rw [got_before _ _ _ _ (by rw [HBL.out]; exact hlt), Nat.zero_add] at hgk
      generalize bs.getD k 0 = z at *
      clear hc
      go_wp2_with fail
      go_quiet (fail)
      go_wp2_with fail
      go_roundw
      case rel => exact ⟨k + 1, _, by omega, by go_num, rfl⟩
      case measure => simp [intOf]; omega
    · obtain ⟨_, _, e, _, hgk⟩ := HG.out.2 len2 (by omega)
      simp only [Option.some.injEq, Addr.mk.injEq, and_true] at e
      obtain ⟨rfl, rfl⟩ := e
      have hgu : w5.cell? ⟨g, len2, none⟩ = some (.int .u8 (u : Int)) := by
        rw [Nat.zero_add] at hgk
        rw [hgk]
        have := got_u bs (octs vs n u) u
        rw [HBL.out] at this
        rw [this]
      clear hgk
      have hoc : (len2 : Int) + 1 + (n : Int) - (len2 : Int) - 1 = (n : Int) := by omega
      go_wp2_with fail
      clear hoc hgu
      go_loop [14] (fun c => ∃ i : Nat, i ≤ 8 * n ∧ c = .int .i64 (i : Int)) (fun c => 8 * n - (intOf c).toNat)
      case atStart => exact ⟨0, Nat.zero_le _, rfl⟩
      case round =>
        obtain ⟨i, hi, rfl⟩ := hrel
        by_cases hlt2 : i < 8 * n
        · obtain ⟨_, _, e, _, hgx⟩ := HG.out.2 (len2 + 1 + i / 8) (by omega)
          simp only [Option.some.injEq, Addr.mk.injEq, and_true] at e
          obtain ⟨rfl, rfl⟩ := e
          have hgo := got_oct bs (octs vs n u) u (i / 8)
          rw [HBL.out] at hgo
          rw [hgo, Nat.zero_add] at hgx
          clear hgo
          have hvl : vs.length = len0 := HD.out.1
          have hxr := octs_range vs n u (i / 8) HVR.out f2 (by omega)
          by_cases hw : i < l ∧ i / 8 < len0
          · have hbit := bit_in vs n u l i HVR.out f2 f3 hlt2 hw.1 (by rw [hvl]; exact hw.2)
            unfold bitv at hbit
            obtain ⟨hw1, hw2⟩ := hw
            obtain ⟨b, off, rfl, hb, hc⟩ := HD.out.lt (by omega)
            have hcd := hc (i / 8) hw2
            have hzr : 0 ≤ vs.getD (i / 8) 0 ∧ vs.getD (i / 8) 0 ≤ 255 := by
              rw [List.getD_eq_getElem?_getD, List.getElem?_eq_getElem (by omega), Option.getD_some]
              exact HVR.out _ (List.getElem_mem _)
            generalize (octs vs n u).getD (i / 8) 0 = x at *
            generalize vs.getD (i / 8) 0 = z at *
            have hne : (bits BinOp.and IntKind.u8 (x / 2 ^ (7 - i % 8)) 1 != bits BinOp.and IntKind.u8 (z / 2 ^ (7 - i % 8)) 1) = false := by rw [hbit]; simp
            clear hc hbit hvl
            go_wp2_with fail
            go_round
            case rel => exact ⟨i + 1, by omega, by go_num⟩
            case measure => simp [intOf]; omega
          · have hbit := bit_out vs n u l i HVR.out f2 f3 hlt2 (by rw [hvl]; exact hw)
            unfold bitv at hbit
            generalize (octs vs n u).getD (i / 8) 0 = x at *
            have hne : (bits BinOp.and IntKind.u8 (x / 2 ^ (7 - i % 8)) 1 != 0) = false := by rw [hbit]; simp
            clear hbit hvl
            by_cases hw1 : i < l
            · have hw2 : ¬ i / 8 < len0 := fun h => hw ⟨hw1, h⟩
              clear hw
              go_wp2_with fail
              go_round
              case rel => exact ⟨i + 1, by omega, by go_num⟩
              case measure => simp [intOf]; omega
            · clear hw
              go_wp2_with fail
              go_round
              case rel => exact ⟨i + 1, by omega, by go_num⟩
              case measure => simp [intOf]; omega
        · go_wp2_with fail
          go_ret
          exact ⟨rfl, below_draws HL5.out _⟩
set_option maxRecDepth 100000 in
set_option maxHeartbeats 2000000 in
theorem walk_neg (a0 : Option Addr) (len0 cap0 : Nat) (vs : List Int) (L : Int) (a2 : Option Addr) (len2 cap2 : Nat) (bs : List Int) (w : World)
    (hv : Rd w a0 len0 vs) (hvn : a0 = none → len0 = 0 ∧ cap0 = 0) (hb : Rd w a2 len2 bs) (hbn : a2 = none → len2 = 0 ∧ cap2 = 0) (hlen : len0 + len2 ≤ 1048576)
    (hL1 : -9223372036854775808 ≤ L) (hL : L < 0) :
    Calls Try.prog 3 #[.slice a0 len0 cap0, .int .i64 L, .slice a2 len2 cap2] w fun e w' => e = .returned (.bool true) ∧ Below w.heap.size w w' := by
  have HV : Hid (Rd w a0 len0 vs) := hv
  have HB : Hid (Rd w a2 len2 bs) := hb
  have HVN : Hid (a0 = none → len0 = 0 ∧ cap0 = 0) := hvn
  have HBN : Hid (a2 = none → len2 = 0 ∧ cap2 = 0) := hbn
  clear hv hb hvn hbn
  go_enter Try.func3, Try.ntmps3
  go_wp2_with fail
  refine (bytes5 _ _ _ _ _ _ _ _ (by unfold maxLen; omega) (by unfold maxLen; omega)).mono ?_
  rintro e w' ⟨rfl, rfl⟩
  go_wp2_with fail
  refine (clone_any _ _ _ vs _ HV.out (by omega) HVN.out).mono ?_
  rintro e w1 ⟨c0, rfl, hr0, hn0, hb1⟩
  have HB1 : Hid (Rd w1 a2 len2 bs) := HB.out.below hb1
  have HL1 : Hid (Below w'.heap.size w' w1) := hb1
  have HR0 : Hid (Rd w1 c0 len0 vs) := hr0
  have HN0 : Hid (c0 = none → len0 = 0) := hn0
  clear hr0 hn0 hb1 HV HB
  go_wp2_with fail
  refine (clone_any _ _ _ bs _ HB1.out (by omega) HBN.out).mono ?_
  rintro e w2 ⟨c2, rfl, hr0, hn0, hb1⟩
  have HL2 : Hid (Below w'.heap.size w' w2) := HL1.out.trans (hb1.mono HL1.out.size)
  have HR1 : Hid (Rd w2 c0 len0 vs) := HR0.out.below hb1
  have HS1 : Hid (Rd w2 c2 len2 bs) := hr0
  have HN2 : Hid (c2 = none → len2 = 0) := hn0
  clear hr0 hn0 hb1 HR0 HB1 HL1
  go_wp2_with fail
  refine (clone_any _ _ _ vs _ HR1.out (by omega) (fun h => ⟨HN0.out h, HN0.out h⟩)).mono ?_
  rintro e w3 ⟨d0, rfl, hr0, hn0, hb1⟩
  have HL3 : Hid (Below w'.heap.size w' w3) := HL2.out.trans (hb1.mono HL2.out.size)
  have HR2 : Hid (Rd w3 c0 len0 vs) := HR1.out.below hb1
  have HS2 : Hid (Rd w3 c2 len2 bs) := HS1.out.below hb1
  have HD2 : Hid (Rd w3 d0 len0 vs) := hr0
  clear hr0 hn0 hb1 HR1 HS1 HL2
  go_wp2_with fail
  refine (clone_any _ _ _ bs _ HS2.out (by omega) (fun h => ⟨HN2.out h, HN2.out h⟩)).mono ?_
  rintro e w4 ⟨d2, rfl, hr0, hn0, hb1⟩
  have HL4 : Hid (Below w'.heap.size w' w4) := HL3.out.trans (hb1.mono HL3.out.size)
  have HR3 : Hid (Rd w4 c0 len0 vs) := HR2.out.below hb1
  have HS3 : Hid (Rd w4 c2 len2 bs) := HS2.out.below hb1
  have HD3 : Hid (Rd w4 d0 len0 vs) := HD2.out.below hb1
  have HE3 : Hid (Rd w4 d2 len2 bs) := hr0
  clear hr0 hn0 hb1 HR2 HS2 HD2 HL3
  go_wp2_with fail
  refine (app_any c0 len0 len0 vs L c2 len2 bs w4 HR3.out HS3.out (by omega) (by omega) (by omega) (Nat.le_refl _) (by omega) (fun h => ⟨HN0.out h, HN0.out h⟩) HN2.out).mono ?_
  rintro e w5 ⟨v, rfl, hown, hb1⟩
  have e1 : nOct L = 0 := by unfold nOct; omega
  have e2 : unU L = 0 := by unfold unU; rw [e1]; omega
  rw [e1, e2] at hown
  clear e1 e2
  obtain ⟨g, cap, rfl, hg1, hg2, hg3⟩ := ownsRow_shape hown (by omega)
  have hrd := rd_of_owns hown hg2
  rw [Nat.add_zero] at hrd hg3 ⊢
  have HL5 : Hid (Below w'.heap.size w' w5) := HL4.out.trans (hb1.mono HL4.out.size)
  have HD : Hid (Rd w5 d0 len0 vs) := HD3.out.below hb1
  have HE : Hid (Rd w5 d2 len2 bs) := HE3.out.below hb1
  have HG : Hid (Rd w5 (some ⟨g, 0, none⟩) (len2 + 1) (bs ++ ((0 : Nat) : Int) :: octs vs 0 0)) := hrd
  have HBL : Hid (bs.length = len2) := HE.out.1
  clear hown hb1 hrd HR3 HS3 HD3 HE3 HL4
  go_wp2_with fail
  go_loopw [11] (fun c wr => ∃ (k q : Nat), k ≤ len2 ∧ c = .int .i64 (k : Int) ∧ wr = w5.drewN q) (fun c _ => len2 - (intOf c).toNat)
  case atStart => exact ⟨0, 0, Nat.zero_le _, rfl, rfl⟩
  case round =>
    obtain ⟨k, q, hk, rfl, rfl⟩ := hrel
    by_cases hlt : k < len2
    · obtain ⟨b, off, rfl, hb, hc⟩ := HE.out.lt (by omega)
      have hck := hc k hlt
      obtain ⟨_, _, e, _, hgk⟩ := HG.out.2 k (by omega)
      simp only [Option.some.injEq, Addr.mk.injEq, and_true] at e
      obtain ⟨rfl, rfl⟩ := e
      rw [got_before _ _ _ _ (by rw [HBL.out]; exact hlt), Nat.zero_add] at hgk
      generalize bs.getD k 0 = z at *
      clear hc
      go_wp2_with fail
      go_quiet (fail)
      go_wp2_with fail
      go_roundw
      case rel => exact ⟨k + 1, _, by omega, by go_num, rfl⟩
      case measure => simp [intOf]; omega
    · obtain ⟨_, _, e, _, hgk⟩ := HG.out.2 len2 (by omega)
      simp only [Option.some.injEq, Addr.mk.injEq, and_true] at e
      obtain ⟨rfl, rfl⟩ := e
      have hgu : w5.cell? ⟨g, len2, none⟩ = some (.int .u8 0) := by
        rw [Nat.zero_add] at hgk
        rw [hgk]
        have := got_u bs (octs vs 0 0) 0
        rw [HBL.out] at this
        rw [this]
        rfl
      clear hgk
      have hoc : (len2 : Int) + 1 - (len2 : Int) - 1 = 0 := by omega
      go_wp2_with fail
      clear hoc hgu
      refine wp_loop_rounds 1 ?_
      rw [rounds_succ]
      go_wp2_with fail
      go_ret
      exact ⟨rfl, below_draws HL5.out _⟩

set_option maxHeartbeats 1000000 in
theorem walk (a0 : Option Addr) (len0 cap0 : Nat) (z0 : List Int) (a1 : Int) (a2 : Option Addr) (len2 cap2 : Nat) (z2 : List Int) (w : World) (w0 : IsRow .u8 w a0 len0 cap0 z0) (w1 : (Lit.int .i64 a1).wf = true) (w2 : IsRow .u8 w a2 len2 cap2 z2) :
    Calls Try.prog 3 #[.slice a0 len0 cap0, .int .i64 a1, .slice a2 len2 cap2] w fun e w' => e = .returned (.bool true) ∧ Below w.heap.size w w' := by
  obtain ⟨vs, hv, hvr, hvn, _, hvm⟩ := rd_of_row w0
  obtain ⟨bs, hb, _, hbn, _, hbm⟩ := rd_of_row w2
  have b1 := bounds_i64 w1
  by_cases hlen : len0 + len2 ≤ 1048576
  · by_cases hL2 : a1 ≤ 524288
    · by_cases hL : a1 < 0
      · exact walk_neg a0 len0 cap0 vs a1 a2 len2 cap2 bs w hv hvn hb hbn hlen b1.1 hL
      · exact walk_in a0 len0 cap0 vs a1 a2 len2 cap2 bs w hv hvr hvn hb hbn hlen (by omega) hL2
    · clear hv hvr hvn hb hbn w0 w1 w2
      go_enter Try.func3, Try.ntmps3
      go_wp2_with fail
      refine (bytes5 _ _ _ _ _ _ _ _ hvm hbm).mono ?_
      rintro e w' ⟨rfl, rfl⟩
      go_wp2_with fail
      go_ret
      exact ⟨rfl, Below.refl _ _⟩
  · clear hv hvr hvn hb hbn w0 w1 w2
    go_enter Try.func3, Try.ntmps3
    go_wp2_with fail
    refine (bytes5 _ _ _ _ _ _ _ _ hvm hbm).mono ?_
    rintro e w' ⟨rfl, rfl⟩
    go_wp2_with fail
    go_ret
    exact ⟨rfl, Below.refl _ _⟩
#print axioms walk
end Go.Proofs.Qxb6608795a.fnBitStringAppendContentsBitByBit

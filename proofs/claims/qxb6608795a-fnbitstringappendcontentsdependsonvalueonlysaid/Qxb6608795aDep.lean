import Derived.Test.Qxb6608795aSame
import Derived.Deep.CutRange
import Derived.Deep.DeepCutAuto
namespace Go.Proofs.Qxb6608795a.fnBitStringAppendContentsDependsOnValueOnly
open Go.RowKit

set_option maxHeartbeats 400000 in
theorem bytes8 (a0 : Option Addr) (len0 cap0 : Nat) (i j : Int) (a3 : Option Addr) (len3 cap3 : Nat) (a4 : Option Addr) (len4 cap4 : Nat) (w : World) (h0 : len0 ≤ maxLen) (h3 : len3 ≤ maxLen) (h4 : len4 ≤ maxLen) :
    Calls Try.prog 8 #[.slice a0 len0 cap0, .int .i64 i, .int .u8 j, .slice a3 len3 cap3, .slice a4 len4 cap4] w fun e w' => e = .returned (.bool (decide (len0 + len3 + len4 ≤ 1048576))) ∧ w' = w := by
  unfold maxLen at h0 h3 h4
  by_cases c : len0 + len3 + len4 ≤ 1048576
  · go_enter Try.func8, Try.ntmps8
    go_wp2
    go_ret
    exact ⟨by simp [c], rfl⟩
  · by_cases c0 : len0 ≤ 1048576
    · by_cases c3 : len3 ≤ 1048576
      · by_cases c03 : len0 + len3 ≤ 1048576
        · by_cases c4 : len4 ≤ 1048576
          · go_enter Try.func8, Try.ntmps8
            go_wp2
            go_ret
            exact ⟨by simp [c], rfl⟩
          · go_enter Try.func8, Try.ntmps8
            go_wp2
            go_ret
            exact ⟨by simp [c], rfl⟩
        · go_enter Try.func8, Try.ntmps8
          go_wp2
          go_ret
          exact ⟨by simp [c], rfl⟩
      · go_enter Try.func8, Try.ntmps8
        go_wp2
        go_ret
        exact ⟨by simp [c], rfl⟩
    · go_enter Try.func8, Try.ntmps8
      go_wp2
      go_ret
      exact ⟨by simp [c], rfl⟩

theorem owns_slice {w : World} {base n : Nat} {v : Value} {ys : List Int} (h : w.ownsRow base 5 1 v n (ys.map (Value.int .u8))) :
    ∃ va cap, v = .slice va n cap ∧ n ≤ cap ∧ (va = none → n = 0 ∧ cap = 0) ∧ Rd w va n ys := by
  have hl : ys.length = n := by simpa using h.1
  rcases Nat.eq_zero_or_pos n with h0 | h0
  · rcases h.2 with ⟨hv, _⟩ | ⟨g, cap, cur, hv, _, _, hnc, _⟩
    · subst h0
      exact ⟨none, 0, hv, Nat.le_refl _, fun _ => ⟨rfl, rfl⟩, hl, fun i hi => absurd hi (Nat.not_lt_zero i)⟩
    · exact ⟨some ⟨g, 0, none⟩, cap, hv, hnc, (fun e => by cases e), hl, fun i hi => by omega⟩
  · obtain ⟨g, cap, rfl, hg1, hg2, hg3⟩ := ownsRow_shape h h0
    exact ⟨_, _, rfl, hg3, (fun e => by cases e), rd_of_owns h hg2⟩

theorem rd_draws {w : World} {a : Option Addr} {len : Nat} {xs : List Int} (h : Rd w a len xs) (q : Nat) : Rd (w.drewN q) a len xs := h

theorem rd_front {w : World} {a : Option Addr} {len m : Nat} {xs ys : List Int} (h : Rd w a len (xs ++ ys)) (hx : xs.length = m) (hm : m ≤ len) : Rd w a m xs := by
  refine ⟨hx, fun i hi => ?_⟩
  obtain ⟨b, off, e, hb, hc⟩ := h.2 i (by omega)
  refine ⟨b, off, e, hb, ?_⟩
  rw [hc]
  simp only [List.getD_eq_getElem?_getD]
  rw [List.getElem?_append_left (by omega)]

theorem got_u (bs os : List Int) (u : Nat) : (bs ++ (u : Int) :: os).getD bs.length 0 = (u : Int) := by
  simp only [List.getD_eq_getElem?_getD]
  rw [List.getElem?_append_right (Nat.le_refl _)]
  simp

theorem below_draws {B : Nat} {a w : World} (h : Below B a w) (n : Nat) : Below B a (w.drewN n) := h.trans ⟨rfl, rfl, rfl, Nat.le_refl _, fun _ _ => rfl⟩

set_option maxRecDepth 100000 in
set_option maxHeartbeats 4000000 in
theorem walk_in (a0 : Option Addr) (len0 cap0 : Nat) (vs : List Int) (L junk : Int) (a3 : Option Addr) (len3 cap3 : Nat) (es : List Int) (a4 : Option Addr) (len4 cap4 : Nat) (bs : List Int) (w : World)
    (hv : Rd w a0 len0 vs) (hvr : ∀ x ∈ vs, 0 ≤ x ∧ x ≤ 255) (hvn : a0 = none → len0 = 0 ∧ cap0 = 0) (he : Rd w a3 len3 es) (hen : a3 = none → len3 = 0 ∧ cap3 = 0) (hb : Rd w a4 len4 bs) (hbn : a4 = none → len4 = 0 ∧ cap4 = 0)
    (hlen : len0 + len3 + len4 ≤ 1048576) (_hj : 0 ≤ junk ∧ junk ≤ 255) (hL1 : -9223372036854775808 ≤ L) (hL2 : L ≤ 524288) :
    Calls Try.prog 4 #[.slice a0 len0 cap0, .int .i64 L, .int .u8 junk, .slice a3 len3 cap3, .slice a4 len4 cap4] w fun e w' => e = .returned (.bool true) ∧ Below w.heap.size w w' := by
  have HV : Hid (Rd w a0 len0 vs) := hv
  have HE : Hid (Rd w a3 len3 es) := he
  have HB : Hid (Rd w a4 len4 bs) := hb
  have HVN : Hid (a0 = none → len0 = 0 ∧ cap0 = 0) := hvn
  have HEN : Hid (a3 = none → len3 = 0 ∧ cap3 = 0) := hen
  have HBN : Hid (a4 = none → len4 = 0 ∧ cap4 = 0) := hbn
  have HVR : Hid (∀ x ∈ vs, 0 ≤ x ∧ x ≤ 255) := hvr
  clear hv he hb hvn hen hbn hvr
  go_enter Try.func4, Try.ntmps4
  go_wp2_with fail
  refine (bytes8 _ _ _ _ _ _ _ _ _ _ _ _ (by unfold maxLen; omega) (by unfold maxLen; omega) (by unfold maxLen; omega)).mono ?_
  rintro e w' ⟨rfl, rfl⟩
  go_wp2_with fail
  refine (clone_any _ _ _ vs _ HV.out (by omega) HVN.out).mono ?_
  rintro e w1 ⟨c0, rfl, hr0, hn0, hb1⟩
  have HB1 : Hid (Rd w1 a4 len4 bs) := HB.out.below hb1
  have HE1 : Hid (Rd w1 a3 len3 es) := HE.out.below hb1
  have HL1 : Hid (Below w'.heap.size w' w1) := hb1
  have HV1 : Hid (Rd w1 c0 len0 vs) := hr0
  have HN0 : Hid (c0 = none → len0 = 0) := hn0
  clear hr0 hn0 hb1 HV HB HE
  go_wp2_with fail
  refine (clone_any _ _ _ es _ HE1.out (by omega) HEN.out).mono ?_
  rintro e w2 ⟨c3, rfl, hr0, hn0, hb1⟩
  have HL2 : Hid (Below w'.heap.size w' w2) := HL1.out.trans (hb1.mono HL1.out.size)
  have HV2 : Hid (Rd w2 c0 len0 vs) := HV1.out.below hb1
  have HB2 : Hid (Rd w2 a4 len4 bs) := HB1.out.below hb1
  have HE2 : Hid (Rd w2 c3 len3 es) := hr0
  have HN3 : Hid (c3 = none → len3 = 0) := hn0
  clear hr0 hn0 hb1 HV1 HB1 HE1 HL1
  go_wp2_with fail
  refine (clone_any _ _ _ bs _ HB2.out (by omega) HBN.out).mono ?_
  rintro e w3 ⟨c4, rfl, hr0, hn0, hb1⟩
  have HL3 : Hid (Below w'.heap.size w' w3) := HL2.out.trans (hb1.mono HL2.out.size)
  have HV3 : Hid (Rd w3 c0 len0 vs) := HV2.out.below hb1
  have HE3 : Hid (Rd w3 c3 len3 es) := HE2.out.below hb1
  have HB3 : Hid (Rd w3 c4 len4 bs) := hr0
  have HN4 : Hid (c4 = none → len4 = 0) := hn0
  clear hr0 hn0 hb1 HV2 HB2 HE2 HL2
  obtain ⟨f1, f2, f3⟩ := nOct_facts L hL2
  obtain ⟨l, hl⟩ : ∃ l : Nat, (l : Int) = max L 0 := ⟨(max L 0).toNat, by omega⟩
  rw [← hl] at f3
  obtain ⟨n, HNN⟩ : ∃ n, Hid (nOct L = n) := ⟨_, rfl⟩
  obtain ⟨u, HUU⟩ : ∃ u, Hid (unU L = u) := ⟨_, rfl⟩
  rw [HNN.out] at f1
  rw [HUU.out] at f2
  rw [HNN.out, HUU.out] at f3
  go_upto_if 55 with fail
  go_cut [11] from 20 (fun s11 wx => s11 = .int .i64 (l : Int) ∧ wx = w3)
  case first =>
    by_cases hL : L < 0
    · have hl0 : (l : Int) = 0 := by omega
      clear hl f3
      go_wp2_with fail
      go_meet
      case rel => exact ⟨by rw [hl0], rfl⟩
    · have hl0 : (l : Int) = L := by omega
      have HL0 : Hid ((l : Int) = L) := hl0
      clear hl hl0 f3
      go_wp2_with fail
      go_meet
      case rel => exact ⟨by rw [HL0.out], rfl⟩
  case rest =>
    obtain ⟨rfl, rfl⟩ := hcut
    clear hl
    have HF3 : Hid ((l : Int) + (u : Int) = 8 * (n : Int)) := f3
    have hl1 : l ≤ 8 * n := by omega
    have hl2 : 8 * n ≤ l + 7 := by omega
    clear f3
    go_upto_if 61 with fail
    go_cut [12] from 20 (fun s12 wx => s12 = .int .i64 (n : Int) ∧ wx = wc)
    case first =>
      by_cases hk : 8 * ((l : Int) / 8) < (l : Int)
      · have HK : Hid ((n : Int) = (l : Int) / 8 + 1) := by unfold Hid; omega
        go_wp2_with fail
        go_meet
        case rel => exact ⟨by rw [HK.out], rfl⟩
      · have HK : Hid ((n : Int) = (l : Int) / 8) := by unfold Hid; omega
        go_wp2_with fail
        go_meet
        case rel => exact ⟨by rw [HK.out], rfl⟩
    case rest =>
      obtain ⟨rfl, rfl⟩ := hcut
      have hmk := run_make_row' (P := Try.prog) 22 5 (.int .u8 0) 1 Try.underlying22 Try.info5 rfl .i64 .i64 n (by omega) (by omega)
      rw [made_eq] at hmk
      go_wp2_with fail
      clear hmk
      have HVL : Hid (vs.length = len0) := HV3.out.1
      go_loopw [14] (fun c wr => ∃ i : Nat, i ≤ n ∧ i ≤ len0 ∧ c = .int .i64 (i : Int) ∧ wr = wc.alloc (.cells ((cp vs n i).map (Value.int .u8)).toArray 5)) (fun c _ => n - (intOf c).toNat)
      case atStart => exact ⟨0, Nat.zero_le _, Nat.zero_le _, rfl, by rw [cp_zero]; simp⟩
      case round =>
        obtain ⟨i, hi1, hi2, rfl, rfl⟩ := hrel
        by_cases hlt : i < n ∧ i < len0
        · obtain ⟨hlt1, hlt2⟩ := hlt
          obtain ⟨b, off, rfl, hb, hc⟩ := HV3.out.lt (by omega)
          have hck := hc i hlt2
          have hcl := cp2_len vs n i hi1 (by rw [HVL.out]; exact hi2)
          have HS : Hid ((cp vs n i).set i (vs.getD i 0) = cp vs n (i + 1)) := cp2_step vs n i hlt1 (by rw [HVL.out]; exact hlt2)
          generalize cp vs n i = ys at *
          obtain ⟨q, hq⟩ : ∃ q, ys[i]? = some q := ⟨ys[i], by simp⟩
          generalize vs.getD i 0 = z at *
          clear hc
          go_wp2_with fail
          go_roundw
          case rel => exact ⟨i + 1, by omega, by omega, by go_num, by rw [← HS.out, List.map_set]⟩
          case measure => simp [intOf]; omega
        · have hce := cp2_end vs n i hi1 (by rw [HVL.out]; exact hi2) (by rw [HVL.out]; exact hlt)
          rw [hce]
          have hbl := body_len vs n
          have hbr := body_range vs n HVR.out (n - 1)
          have HOB : Hid (octs (body vs n) n u = octs vs n u) := octs_body vs n u
          generalize body vs n = ys0 at *
          clear hce
          have hco : (¬ i < n) ∨ (i < n ∧ ¬ i < len0) := by omega
          clear hlt
          rcases hco with hlt1 | ⟨hlt1, hlt2⟩
          all_goals
            go_wp2_with fail
            go_loopw [15] (fun c wr => ∃ (j : Nat) (ys : List Int), l ≤ j ∧ j ≤ 8 * n ∧ c = .int .i64 (j : Int) ∧ ys.length = n ∧ (0 ≤ ys.getD (n - 1) 0 ∧ ys.getD (n - 1) 0 ≤ 255) ∧ Hid (octs ys n u = octs vs n u) ∧ wr = wc.alloc (.cells (ys.map (Value.int .u8)).toArray 5)) (fun c _ => 8 * n - (intOf c).toNat)
            case atStart => exact ⟨l, ys0, Nat.le_refl _, hl1, rfl, hbl, hbr, HOB, rfl⟩
            case round =>
              clear hbl hbr HOB
              obtain ⟨j, ys, hj1, hj2, rfl, hyl, hyr, HOY, rfl⟩ := hrel
              by_cases hjl : j < 8 * n
              · have hj8 : j / 8 = n - 1 := by omega
                have hp : 7 - j % 8 < u := by have := HF3.out; omega
                have HCO := clr_or _ u (7 - j % 8) hyr f2 hp
                have hyj : ys[j / 8]? = some (ys.getD (n - 1) 0) := by
                  rw [hj8, List.getD_eq_getElem?_getD, List.getElem?_eq_getElem (by omega), Option.getD_some]
                generalize hy : ys.getD (n - 1) 0 = y at *
                have HY : Hid (ys.getD (n - 1) 0 = y) := hy
                have HJ8 : Hid (j / 8 = n - 1) := hj8
                have HCO2 : Hid _ := HCO
                clear hy hj8 HCO
                have HAS : Hid _ := alt_step ys vs n u j y _ hyl (by omega) HJ8.out HY.out HCO2.out HOY.out
                clear HCO2
                go_wp2_with fail
                · go_roundw
                  case rel => exact ⟨j + 1, _, by omega, by omega, by go_num, HAS.out.1, HAS.out.2.1, HAS.out.2.2, by rw [List.map_set]⟩
                  case measure => simp [intOf]; omega
                · go_roundw
                  case rel => exact ⟨j + 1, ys, by omega, by omega, by go_num, hyl, by rw [HY.out]; exact hyr, HOY, rfl⟩
                  case measure => simp [intOf]; omega
              · have hown0 := World.ownsRow_lit (base := wc.heap.size) (e := 5) (size := 1) wc (ys.map (Value.int .u8)).toArray n (Nat.le_refl _) (by unfold maxLen; omega) (by simpa using hyl)
                have HOW : Hid ((wc.alloc (.cells (ys.map (Value.int .u8)).toArray 5)).ownsRow wc.heap.size 5 1 (.slice (some ⟨wc.heap.size, 0, none⟩) n n) n (ys.map (Value.int .u8))) := by unfold Hid; simpa using hown0
                clear hown0 hyr
                go_wp2_with fail
                obtain ⟨i0, hi, hz0, hz1, hz2⟩ := info_parts Try.info5
                go_loopw [13, 16] (fun v c wr => ∃ q : Nat, q ≤ len3 ∧ c = .int .i64 (q : Int) ∧ Hid (wr.ownsRow wc.heap.size 5 1 v (n + q) ((ys ++ es.take q).map (Value.int .u8))) ∧ Hid (Below wc.heap.size wc wr) ∧ wc.heap.size ≤ wr.heap.size) (fun _ c _ => len3 - (intOf c).toNat)
                case atStart => exact ⟨0, Nat.zero_le _, rfl, by simpa using HOW, (Below.refl _ _).alloc (Nat.le_refl _) _, by simp⟩
                case round =>
                  clear HOW
                  obtain ⟨q, hq, rfl, HOr, HLr, hsr⟩ := hrel
                  by_cases hql : q < len3
                  · obtain ⟨b, off, rfl, hb, hc⟩ := (HE3.out.below HLr.out).lt (by omega)
                    have hck := hc q hql
                    have HTK : Hid (es.take (q + 1) = es.take q ++ [es.getD q 0]) := by
                      unfold Hid
                      have hel := HE3.out.1
                      rw [List.take_succ_eq_append_getElem (by omega), List.getD_eq_getElem?_getD, List.getElem?_eq_getElem (by omega)]
                      rfl
                    generalize es.getD q 0 = z at *
                    clear hc
                    go_wp2_with (at_builtin; (refine wpList_append_own _ rfl (.tmp 117) (.tmp 122) 22 rfl wc.heap.size 5 i0 (.int .u8 0) 1 1 Try.underlying22 hi hz0 hz1 hz2 rfl (by decide) _ (n + q) _ rfl (HOr.out.alloc _) ⟨_, 0, none⟩ 1 1 [.int .u8 z] rfl rfl ?k1 ?k2 ?k3 ?k4 ?k5 ?_))
                    case k1 =>
                      intro j x hj
                      match j, hj with
                      | 0, hj => simp at hj; subst hj; simp [Addr.add]
                    case k2 => intro x hx; simp at hx; subst hx; rfl
                    case k3 => unfold maxLen; omega
                    case k4 => omega
                    case k5 => simp; omega
                    intro v3 w5 hown3 hgrow3 _
                    have HO3 : Hid (w5.ownsRow wc.heap.size 5 1 v3 (n + (q + 1)) ((ys ++ es.take (q + 1)).map (Value.int .u8))) := by
                      unfold Hid; rw [HTK.out]; simpa [← Nat.add_assoc] using hown3
                    have hbel3 := below_of_grown hgrow3 (B := wc.heap.size) (by simp; omega) (fun j h => by have := HOr.out.lt j h; omega)
                    have HL4 : Hid (Below wc.heap.size wc w5) := (HLr.out.alloc (by omega) _).trans hbel3
                    have hs3 : wc.heap.size ≤ w5.heap.size := by have := hbel3.size; simp at this; omega
                    clear hown3 hgrow3 hbel3 HOr HLr
                    go_wp2_with fail
                    go_roundw
                    case rel => exact ⟨q + 1, by omega, by go_num, HO3, HL4, hs3⟩
                    case measure => simp [intOf]; omega
                  · obtain rfl : q = len3 := by omega
                    have hox := HOr.out
                    rw [List.take_of_length_le (by have := HE3.out.1; omega)] at hox
                    obtain ⟨va, vcap, rfl, hvc, hvn, hra⟩ := owns_slice hox
                    have HRA : Hid (Rd wr va (n + q) (ys ++ es)) := hra
                    have HVNA : Hid (va = none → n + q = 0 ∧ vcap = 0) := hvn
                    have HOCT : Hid (octs (ys ++ es) n u = octs vs n u) := (octs_more ys es n u hyl).trans HOY.out
                    have HVr : Hid (Rd wr c0 len0 vs) := HV3.out.below HLr.out
                    have HBr : Hid (Rd wr c4 len4 bs) := HB3.out.below HLr.out
                    have HLw : Hid (Below w'.heap.size w' wr) := HL3.out.trans (HLr.out.mono HL3.out.size)
                    clear hox hra hvn HOr HOY HV3 HB3 HE3 HL3 HLr hq hql
                    go_wp2_with fail
                    refine (clone_any _ _ _ bs _ HBr.out (by omega) (fun h => ⟨HN4.out h, HN4.out h⟩)).mono ?_
                    rintro e x1 ⟨d1, rfl, hr0, hn0, hb1⟩
                    have HRA1 : Hid (Rd x1 va (n + q) (ys ++ es)) := HRA.out.below hb1
                    have HV1 : Hid (Rd x1 c0 len0 vs) := HVr.out.below hb1
                    have HB1 : Hid (Rd x1 c4 len4 bs) := HBr.out.below hb1
                    have HL1 : Hid (Below w'.heap.size w' x1) := HLw.out.trans (hb1.mono HLw.out.size)
                    have HD1 : Hid (Rd x1 d1 len4 bs) := hr0
                    have HDN1 : Hid (d1 = none → len4 = 0) := hn0
                    clear hr0 hn0 hb1 HRA HVr HBr HLw
                    go_wp2_with fail
                    refine (app_any c0 len0 len0 vs L d1 len4 bs x1 HV1.out HD1.out (by omega) (by omega) (by omega) (Nat.le_refl _) (by omega) (fun h => ⟨HN0.out h, HN0.out h⟩) HDN1.out).mono ?_
                    rintro e x2 ⟨g1, rfl, hown, hb1⟩
                    rw [HNN.out, HUU.out] at hown
                    obtain ⟨b1, cap1, rfl, hg1, hg2, hg3⟩ := ownsRow_shape hown (by omega)
                    have HG2 : Hid (Rd x2 (some ⟨b1, 0, none⟩) (len4 + 1 + n) (bs ++ (u : Int) :: octs vs n u)) := rd_of_owns hown hg2
                    have HRA2 : Hid (Rd x2 va (n + q) (ys ++ es)) := HRA1.out.below hb1
                    have HB2 : Hid (Rd x2 c4 len4 bs) := HB1.out.below hb1
                    have HL2 : Hid (Below w'.heap.size w' x2) := HL1.out.trans (hb1.mono HL1.out.size)
                    clear hown hb1 hg1 hg2 HRA1 HV1 HB1 HL1 HD1 HDN1
                    go_wp2_with fail
                    refine (clone_any _ _ _ bs _ HB2.out (by omega) (fun h => ⟨HN4.out h, HN4.out h⟩)).mono ?_
                    rintro e x3 ⟨d2, rfl, hr0, hn0, hb1⟩
                    have HRA3 : Hid (Rd x3 va (n + q) (ys ++ es)) := HRA2.out.below hb1
                    have HG3 : Hid (Rd x3 (some ⟨b1, 0, none⟩) (len4 + 1 + n) (bs ++ (u : Int) :: octs vs n u)) := HG2.out.below hb1
                    have HB3 : Hid (Rd x3 c4 len4 bs) := HB2.out.below hb1
                    have HL3 : Hid (Below w'.heap.size w' x3) := HL2.out.trans (hb1.mono HL2.out.size)
                    have HD3 : Hid (Rd x3 d2 len4 bs) := hr0
                    have HDN3 : Hid (d2 = none → len4 = 0) := hn0
                    clear hr0 hn0 hb1 HRA2 HG2 HB2 HL2
                    go_wp2_with fail
                    refine (app_any va (n + q) vcap (ys ++ es) L d2 len4 bs x3 HRA3.out HD3.out (by omega) (by omega) (by omega) hvc (by omega) HVNA.out HDN3.out).mono ?_
                    rintro e x4 ⟨g2, rfl, hown, hb1⟩
                    rw [HNN.out, HUU.out, HOCT.out] at hown
                    obtain ⟨b2, cap2', rfl, hg1, hg2, hg4⟩ := ownsRow_shape hown (by omega)
                    have HH4 : Hid (Rd x4 (some ⟨b2, 0, none⟩) (len4 + 1 + n) (bs ++ (u : Int) :: octs vs n u)) := rd_of_owns hown hg2
                    have HG4 : Hid (Rd x4 (some ⟨b1, 0, none⟩) (len4 + 1 + n) (bs ++ (u : Int) :: octs vs n u)) := HG3.out.below hb1
                    have HB4 : Hid (Rd x4 c4 len4 bs) := HB3.out.below hb1
                    have HL4 : Hid (Below w'.heap.size w' x4) := HL3.out.trans (hb1.mono HL3.out.size)
                    clear hown hb1 hg1 hg2 HRA3 HG3 HB3 HL3 HD3 HDN3
                    go_wp2_with fail
                    refine (same_any _ _ _ _ _ _ _ HG4.out HH4.out (by omega)).mono ?_
                    rintro e x5 ⟨rfl, q1, rfl⟩
                    have HP : Hid (Rd (x4.drewN q1) (some ⟨b1, 0, none⟩) len4 bs) := rd_draws (rd_front HG4.out HB4.out.1 (by omega)) q1
                    have HB5 : Hid (Rd (x4.drewN q1) c4 len4 bs) := rd_draws HB4.out q1
                    have hne : (((len4 : Int) + 1 + (n : Int)) != ((len4 : Int) + 1 + (n : Int))) = false := by simp
                    go_wp2_with fail
                    refine (same_any _ _ _ _ _ _ _ HP.out HB5.out (by omega)).mono ?_
                    rintro e x6 ⟨rfl, q2, rfl⟩
                    obtain ⟨_, _, e, _, hgk⟩ := HG4.out.2 len4 (by omega)
                    simp only [Option.some.injEq, Addr.mk.injEq, and_true] at e
                    obtain ⟨rfl, rfl⟩ := e
                    have hgu : x4.cell? ⟨b1, len4, none⟩ = some (.int .u8 (u : Int)) := by
                      rw [Nat.zero_add] at hgk
                      rw [hgk]
                      have := got_u bs (octs vs n u) u
                      rw [HB4.out.1] at this
                      rw [this]
                    clear hgk
                    have heq : (l : Int) + (u : Int) = 8 * (n : Int) := HF3.out
                    have hu8 : (u : Int) < 8 := by omega
                    go_wp2_with fail
                    go_ret
                    exact ⟨by simp, below_draws HL4.out _⟩

set_option maxRecDepth 100000 in
set_option maxHeartbeats 1000000 in
theorem walk (a0 : Option Addr) (len0 cap0 : Nat) (z0 : List Int) (a1 : Int) (a2 : Int) (a3 : Option Addr) (len3 cap3 : Nat) (z3 : List Int) (a4 : Option Addr) (len4 cap4 : Nat) (z4 : List Int) (w : World) (w0 : IsRow .u8 w a0 len0 cap0 z0) (w1 : (Lit.int .i64 a1).wf = true) (w2 : (Lit.int .u8 a2).wf = true) (w3 : IsRow .u8 w a3 len3 cap3 z3) (w4 : IsRow .u8 w a4 len4 cap4 z4) :
    Calls Try.prog 4 #[.slice a0 len0 cap0, .int .i64 a1, .int .u8 a2, .slice a3 len3 cap3, .slice a4 len4 cap4] w fun e w' => e = .returned (.bool true) ∧ Below w.heap.size w w' := by
  obtain ⟨vs, hv, hvr, hvn, _, hvm⟩ := rd_of_row w0
  obtain ⟨es, he, _, hen, _, hem⟩ := rd_of_row w3
  obtain ⟨bs, hb, _, hbn, _, hbm⟩ := rd_of_row w4
  have b1 := bounds_i64 w1
  have b2 := bounds_u8 w2
  by_cases hlen : len0 + len3 + len4 ≤ 1048576
  · by_cases hL2 : a1 ≤ 524288
    · exact walk_in a0 len0 cap0 vs a1 a2 a3 len3 cap3 es a4 len4 cap4 bs w hv hvr hvn he hen hb hbn hlen b2 b1.1 hL2
    · clear hv hvr hvn he hen hb hbn w0 w1 w2 w3 w4
      go_enter Try.func4, Try.ntmps4
      go_wp2_with fail
      refine (bytes8 _ _ _ _ _ _ _ _ _ _ _ _ hvm hem hbm).mono ?_
      rintro e w' ⟨rfl, rfl⟩
      go_wp2_with fail
      go_ret
      exact ⟨rfl, Below.refl _ _⟩
  · clear hv hvr hvn he hen hb hbn w0 w1 w2 w3 w4
    go_enter Try.func4, Try.ntmps4
    go_wp2_with fail
    refine (bytes8 _ _ _ _ _ _ _ _ _ _ _ _ hvm hem hbm).mono ?_
    rintro e w' ⟨rfl, rfl⟩
    go_wp2_with fail
    go_ret
    exact ⟨rfl, Below.refl _ _⟩
#print axioms walk
end Go.Proofs.Qxb6608795a.fnBitStringAppendContentsDependsOnValueOnly

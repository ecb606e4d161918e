import Derived.Test.Qxb6608900aMore
namespace Go.Proofs.Qxb6608900a.fnHasErrorsOneMoreProblem
open Go.RowKit

/-- The boxed problem, read again. -/
def Boxed (w : World) (b : Nat) (l c s : Int) (m : ByteArray) : Prop :=
  w.cell? ⟨b, 0, none⟩ = some (.int .i64 l) ∧ w.cell? ⟨b, 1, none⟩ = some (.int .i64 c) ∧ w.cell? ⟨b, 2, none⟩ = some (.int .i64 s) ∧ w.cell? ⟨b, 3, none⟩ = some (.string m)

theorem Boxed.below {w w' : World} {n b : Nat} {l c s : Int} {m : ByteArray} (h : Boxed w b l c s m) (hb : Below n w w') (hlt : b < n) : Boxed w' b l c s m :=
  ⟨(hb.cell (p := ⟨b, _, none⟩) hlt).trans h.1, (hb.cell (p := ⟨b, _, none⟩) hlt).trans h.2.1, (hb.cell (p := ⟨b, _, none⟩) hlt).trans h.2.2.1, (hb.cell (p := ⟨b, _, none⟩) hlt).trans h.2.2.2⟩

theorem boxed_new (w : World) (l c s : Int) (m : ByteArray) : Boxed (w.alloc (.cells #[.int .i64 l, .int .i64 c, .int .i64 s, .string m] 26)) w.heap.size l c s m :=
  ⟨World.cell?_alloc_at (hn := rfl) .., World.cell?_alloc_at (hn := rfl) .., World.cell?_alloc_at (hn := rfl) .., World.cell?_alloc_at (hn := rfl) ..⟩

set_option maxRecDepth 100000 in
set_option maxHeartbeats 4000000 in
theorem walk_in (a : Option Addr) (len cap i : Nat) (l c s : Int) (m : ByteArray) (ps : List Pr) (w : World) (hr : RdP w a len ps) (hs : Short ps) (hnil : a = none → len = 0) (hlen : len ≤ maxLen) (hm : m.size ≤ maxLen) (hi : i ≤ len) :
    Calls Try.prog 4 #[.slice a len cap, .int .i64 (i : Int), .agg #[.int .i64 l, .int .i64 c, .int .i64 s, .string m]] w fun e w' => e = .returned (.bool true) ∧ Below w.heap.size w w' := by
  have HBX : Hid (Below w.heap.size w (w.alloc (.cells #[.int .i64 l, .int .i64 c, .int .i64 s, .string m] 26))) := (Below.refl _ _).alloc (Nat.le_refl _) _
  have HR : Hid (RdP (w.alloc (.cells #[.int .i64 l, .int .i64 c, .int .i64 s, .string m] 26)) a len ps) := hr.below HBX.out
  have HS : Hid (Short ps) := hs
  have HN : Hid (a = none → len = 0) := hnil
  have HP : Hid (ps.length = len) := hr.1
  have HQ : Hid (Boxed (w.alloc (.cells #[.int .i64 l, .int .i64 c, .int .i64 s, .string m] 26)) w.heap.size l c s m) := boxed_new w l c s m
  have HSZ : Hid (w.heap.size < (w.alloc (.cells #[.int .i64 l, .int .i64 c, .int .i64 s, .string m] 26)).heap.size) := by unfold Hid; simp
  clear hr hs hnil
  go_enter Try.func4, Try.ntmps4
  go_wp2_with fail
  refine (bytes10 a len cap i l c s m ps _ HR.out HS.out hlen hm).mono ?_
  rintro e w0 ⟨b, rfl, hb, hbel⟩
  have hR0 := HR.out.below hbel
  have hQ0 := HQ.out.below hbel HSZ.out
  have hL0 := HBX.out.trans (hbel.mono (Nat.le_of_lt HSZ.out))
  have hS0 := Nat.lt_of_lt_of_le HSZ.out hbel.size
  clear HBX HR HQ HSZ hbel
  cases b
  · clear hb
    go_wp2_with fail
    go_ret
    exact ⟨rfl, hL0⟩
  have hl : len ≤ 1048576 := hb rfl
  clear hb hlen
  have HR : Hid (RdP w0 a len ps) := hR0
  have HL : Hid (Below w.heap.size w w0) := hL0
  obtain ⟨q0, q1, q2, q3⟩ := hQ0
  clear hR0 hL0
  unfold maxLen at hm
  by_cases hm1 : m.size ≤ 1048576
  case neg =>
    go_wp2_with fail
    go_ret
    exact ⟨rfl, HL.out⟩
  have ht0 : (0 : Int) ≤ 32 + (m.size : Int) := by omega
  have ht1 : 32 + (m.size : Int) ≤ 2097152 := by omega
  go_wp2_with fail
  refine (big6 a len cap (32 + (m.size : Int)) ps _ HR.out HS.out hl ht0 ht1).mono ?_
  rintro e w' ⟨b, rfl, hb, rfl⟩
  clear hb ht0 ht1
  cases b
  case true =>
    go_wp2_with fail
    go_ret
    exact ⟨rfl, HL.out⟩
  have hd1 : decide ((i : Int) < 0) = false := by simp
  have hd2 : decide (len < i) = false := by simp; omega
  have HQ : Hid (Boxed w' w.heap.size l c s m) := ⟨q0, q1, q2, q3⟩
  clear q0 q1 q2 q3 hm hm1
  go_wp2_with fail
  go_loop [7, 8] (fun f c => ∃ (j E : Nat), j ≤ len ∧ E ≤ j ∧ c = .int .i64 (j : Int) ∧ f = .int .i64 (E : Int) ∧ Hid (hasE (cut ps 0 j) = decide (0 < E))) (fun _ c => len - (intOf c).toNat)
  case atStart => exact ⟨0, 0, Nat.zero_le _, Nat.le_refl _, rfl, rfl, rfl⟩
  case round =>
    obtain ⟨j, E, hj, hE, rfl, rfl, HE⟩ := hrel
    by_cases hlt : j < len
    · obtain ⟨b, off, rfl, hb, h0, h1, h2, h3⟩ := HR.out.2 j hlt
      have hsu := hasE_cut_succ ps 0 j (Nat.zero_le _) (by have := HP.out; omega)
      generalize (ps.getD j pr0).2.2.1 = sj at *
      clear h0 h1 h3
      by_cases hse : (sj == 0) = true
      · have HY : Hid (hasE (cut ps 0 (j + 1)) = decide (0 < E + 1)) := by unfold Hid; rw [hsu, hse]; simp
        clear hsu
        go_wp2_with (go_at_call 7; refine (iserr7 _ _).mono ?_; rintro e w1 ⟨rfl, rfl⟩)
        go_round
        case rel => exact ⟨j + 1, E + 1, by omega, by omega, by go_num, by go_num, HY⟩
        case measure => simp [intOf]; omega
      · have hse' : (sj == 0) = false := by simpa using hse
        have HY : Hid (hasE (cut ps 0 (j + 1)) = decide (0 < E)) := by unfold Hid; rw [hsu, hse', HE.out]; simp
        clear hsu hse
        go_wp2_with (go_at_call 7; refine (iserr7 _ _).mono ?_; rintro e w1 ⟨rfl, rfl⟩)
        go_round
        case rel => exact ⟨j + 1, E, by omega, by omega, by go_num, by go_num, HY⟩
        case measure => simp [intOf]; omega
    · obtain rfl : j = len := by omega
      clear hlt
      obtain ⟨i0, hi0, hz0, hz1, hz2⟩ := info_parts Try.info33
      go_wp2_with (at_make; (refine wpList_make_own _ rfl (.const (.int .i64 0)) (.tmp 53) 28 rfl w'.heap.size 33 i0 _ 4 Try.underlying28 hi0 hz0 hz1 .i64 .i64 _ (j + 1) rfl rfl rfl ?b1 ?b2 ?b3 ?_))
      case b1 => omega
      case b2 => unfold maxLen; omega
      intro w1 hown1 hgrow1
      have HO1 : Hid (w1.ownsRow w'.heap.size 33 4 (.slice (some ⟨w'.heap.size, 0, none⟩) 0 (j + 1)) 0 []) := hown1
      have HL1 : Hid (Below w'.heap.size w' w1) := (Below.refl _ _).grown hgrow1 (Nat.le_refl _) (fun k h => by cases h)
      have hs1 : w'.heap.size ≤ w1.heap.size := hgrow1.size
      clear hown1 hgrow1
      go_wp2_with fail
      go_loopw [9, 10] (fun v c wr => ∃ k : Nat, k ≤ i ∧ c = .int .i64 (k : Int) ∧ Hid (wr.ownsRow w'.heap.size 33 4 v k (flat (cut ps 0 k))) ∧ Hid (Below w'.heap.size w' wr) ∧ w'.heap.size ≤ wr.heap.size) (fun _ c _ => i - (intOf c).toNat)
      case atStart => exact ⟨0, Nat.zero_le _, rfl, by unfold Hid; rw [cut_self]; exact HO1, HL1, hs1⟩
      case round =>
        clear HO1 HL1 hs1
        obtain ⟨k, hk, rfl, HO, HLr, hsr⟩ := hrel
        by_cases hlt : k < i
        · obtain ⟨b, off, rfl, hb, h0, h1, h2, h3⟩ := (HR.out.below HLr.out).2 k (by omega)
          have HCS : Hid (flat (cut ps 0 (k + 1)) = flat (cut ps 0 k) ++ prc (ps.getD k pr0)) := by
            unfold Hid; rw [cut_succ ps 0 k (Nat.zero_le _) (by have := HP.out; omega), flat_append, flat_one]
          generalize ps.getD k pr0 = p at *
          obtain ⟨l', c', s', m'⟩ := p
          simp only [] at h0 h1 h2 h3
          go_wp2_with fail
          refine (toprob11 l' c' s' m' _).mono ?_
          rintro e w2 ⟨rfl, hb2⟩
          have HO2 : Hid (w2.ownsRow w'.heap.size 33 4 u9 k (flat (cut ps 0 k))) := owns_kept HO.out hb2
          have HL2 : Hid (Below w'.heap.size w' w2) := HLr.out.trans (hb2.mono hsr)
          have hs2 : w'.heap.size ≤ w2.heap.size := Nat.le_trans hsr hb2.size
          clear hb2 HO HLr h0 h1 h2 h3
          go_wp2_with (at_builtin; (refine wpList_append_own _ rfl (.tmp 60) (.tmp 66) 28 rfl w'.heap.size 33 i0 _ 4 40 Try.underlying28 hi0 hz0 hz1 hz2 rfl (by decide) _ k _ rfl (HO2.out.alloc _) ⟨_, 0, none⟩ 1 1 (prc (l', c', s', m')) rfl rfl ?k1 ?k2 ?k3 ?k4 ?k5 ?_))
          case k1 => exact new_cells w2 (l', c', s', m') 33
          case k2 => exact one_prc _
          case k3 => unfold maxLen; omega
          case k4 => omega
          case k5 => simp; omega
          intro v3 w3 hown3 hgrow3 _
          have HO3 : Hid (w3.ownsRow w'.heap.size 33 4 v3 (k + 1) (flat (cut ps 0 (k + 1)))) := by
            unfold Hid; rw [HCS.out]; exact hown3
          have hbel3 : Below w'.heap.size _ w3 := (Below.refl w'.heap.size _).grown hgrow3 (by simp; omega) (fun q h => (HO2.out.lt q h).1)
          have HL3 : Hid (Below w'.heap.size w' w3) := (HL2.out.alloc (by omega) _).trans hbel3
          have hs3 : w'.heap.size ≤ w3.heap.size := by have := hbel3.size; simp at this; omega
          clear hown3 hgrow3 hbel3 HO2 HL2 HCS
          go_wp2_with fail
          go_roundw
          case rel => exact ⟨k + 1, by omega, by go_num, HO3, HL3, hs3⟩
          case measure => simp [intOf]; omega
        · obtain rfl : k = i := by omega
          clear hlt
          obtain ⟨q0, q1, q2, q3⟩ := HQ.out.below HLr.out hS0
          go_wp2_with fail
          refine (toprob11 l c s m _).mono ?_
          rintro e w2 ⟨rfl, hb2⟩
          have HO2 : Hid (w2.ownsRow w'.heap.size 33 4 u9 k (flat (cut ps 0 k))) := owns_kept HO.out hb2
          have HL2 : Hid (Below w'.heap.size w' w2) := HLr.out.trans (hb2.mono hsr)
          have hs2 : w'.heap.size ≤ w2.heap.size := Nat.le_trans hsr hb2.size
          clear hb2 HO HLr q0 q1 q2 q3
          go_wp2_with (at_builtin; (refine wpList_append_own _ rfl (.tmp 68) (.tmp 71) 28 rfl w'.heap.size 33 i0 _ 4 40 Try.underlying28 hi0 hz0 hz1 hz2 rfl (by decide) _ k _ rfl (HO2.out.alloc _) ⟨_, 0, none⟩ 1 1 (prc (l, c, s, m)) rfl rfl ?k1 ?k2 ?k3 ?k4 ?k5 ?_))
          case k1 => exact new_cells w2 (l, c, s, m) 33
          case k2 => exact one_prc _
          case k3 => unfold maxLen; omega
          case k4 => omega
          case k5 => simp; omega
          intro v3 w3 hown3 hgrow3 _
          have HO3 : Hid (w3.ownsRow w'.heap.size 33 4 v3 (k + 1) (flat (cut ps 0 k ++ [(l, c, s, m)]))) := by
            unfold Hid; rw [flat_append, flat_one]; exact hown3
          have hbel3 : Below w'.heap.size _ w3 := (Below.refl w'.heap.size _).grown hgrow3 (by simp; omega) (fun q h => (HO2.out.lt q h).1)
          have HL3 : Hid (Below w'.heap.size w' w3) := (HL2.out.alloc (by omega) _).trans hbel3
          have hs3 : w'.heap.size ≤ w3.heap.size := by have := hbel3.size; simp at this; omega
          clear hown3 hgrow3 hbel3 HO2 HL2
          generalize hpre : cut ps 0 k ++ [(l, c, s, m)] = pre at HO3
          have HPR : Hid (cut ps 0 k ++ [(l, c, s, m)] = pre) := hpre
          clear hpre
          go_wp2_with fail
          go_loopw [9, 11] (fun v c wr => ∃ n : Nat, k ≤ n ∧ n ≤ j ∧ c = .int .i64 (n : Int) ∧ Hid (wr.ownsRow w'.heap.size 33 4 v (n + 1) (flat (pre ++ cut ps k n))) ∧ Hid (Below w'.heap.size w' wr) ∧ w'.heap.size ≤ wr.heap.size) (fun _ c _ => j - (intOf c).toNat)
          case atStart => exact ⟨k, Nat.le_refl _, hi, rfl, by unfold Hid; rw [cut_self, List.append_nil]; exact HO3, HL3, hs3⟩
          case round =>
            clear HO3 HL3 hs3
            obtain ⟨n, hkn, hnj, rfl, HO, HLr, hsr⟩ := hrel
            by_cases hlt : n < j
            · obtain ⟨b, off, rfl, hb, h0, h1, h2, h3⟩ := (HR.out.below HLr.out).2 n (by omega)
              have HCS : Hid (flat (pre ++ cut ps k (n + 1)) = flat (pre ++ cut ps k n) ++ prc (ps.getD n pr0)) := by
                unfold Hid; rw [cut_succ ps k n hkn (by have := HP.out; omega), ← List.append_assoc, flat_append, flat_one]
              generalize ps.getD n pr0 = p at *
              obtain ⟨l', c', s', m'⟩ := p
              simp only [] at h0 h1 h2 h3
              go_wp2_with fail
              refine (toprob11 l' c' s' m' _).mono ?_
              rintro e w2 ⟨rfl, hb2⟩
              have HO2 : Hid (w2.ownsRow w'.heap.size 33 4 u9 (n + 1) (flat (pre ++ cut ps k n))) := owns_kept HO.out hb2
              have HL2 : Hid (Below w'.heap.size w' w2) := HLr.out.trans (hb2.mono hsr)
              have hs2 : w'.heap.size ≤ w2.heap.size := Nat.le_trans hsr hb2.size
              clear hb2 HO HLr h0 h1 h2 h3
              go_wp2_with (at_builtin; (refine wpList_append_own _ rfl (.tmp 80) (.tmp 86) 28 rfl w'.heap.size 33 i0 _ 4 40 Try.underlying28 hi0 hz0 hz1 hz2 rfl (by decide) _ (n + 1) _ rfl (HO2.out.alloc _) ⟨_, 0, none⟩ 1 1 (prc (l', c', s', m')) rfl rfl ?k1 ?k2 ?k3 ?k4 ?k5 ?_))
              case k1 => exact new_cells w2 (l', c', s', m') 33
              case k2 => exact one_prc _
              case k3 => unfold maxLen; omega
              case k4 => omega
              case k5 => simp; omega
              intro v3 w3 hown3 hgrow3 _
              have HO3 : Hid (w3.ownsRow w'.heap.size 33 4 v3 (n + 1 + 1) (flat (pre ++ cut ps k (n + 1)))) := by
                unfold Hid; rw [HCS.out]; exact hown3
              have hbel3 : Below w'.heap.size _ w3 := (Below.refl w'.heap.size _).grown hgrow3 (by simp; omega) (fun q h => (HO2.out.lt q h).1)
              have HL3 : Hid (Below w'.heap.size w' w3) := (HL2.out.alloc (by omega) _).trans hbel3
              have hs3 : w'.heap.size ≤ w3.heap.size := by have := hbel3.size; simp at this; omega
              clear hown3 hgrow3 hbel3 HO2 HL2 HCS
              go_wp2_with fail
              go_roundw
              case rel => exact ⟨n + 1, by omega, by omega, by go_num, HO3, HL3, hs3⟩
              case measure => simp [intOf]; omega
            · obtain rfl : n = j := by omega
              clear hlt
              obtain ⟨va, vcap, rfl, hrd⟩ := owns_problems HO.out (by
                have e1 := cut_len ps 0 k (Nat.zero_le _) (by have := HP.out; omega)
                have e2 := cut_len ps k n hkn (by have := HP.out; omega)
                rw [← HPR.out, List.length_append, List.length_append, e1, e2]
                simp; omega)
              have HRD : Hid (RdP wr va (n + 1) (pre ++ cut ps k n)) := hrd
              have HRr : Hid (RdP wr a n ps) := HR.out.below HLr.out
              clear hrd HO
              have hW := cut_whole ps k n HP.out
              have hA : hasE (pre ++ cut ps k n) = (hasE (cut ps 0 n) || (s == 0)) := by
                rw [← HPR.out, hasE_append, hasE_append, hW]
                cases hasE (cut ps 0 k) <;> cases hasE (cut ps k n) <;> simp [hasE]
              have hEE := HE.out
              clear hW HPR
              generalize hbw : hasE (cut ps 0 n) = bw at *
              generalize hsz : (s == 0) = bs at *
              have hE1 : decide (0 < E) = bw := hEE.symm
              have hE2 : decide ((0 : Int) < (E : Int)) = bw := by rw [← hE1]; exact decide_eq_decide.2 (by omega)
              clear hEE HE
              cases bw <;> cases bs
              all_goals
                simp only [Bool.or_false, Bool.or_true, Bool.or_self] at hA
                go_wp2_with fail
                refine (to9_zero a n cap ps n _ HRr.out HN.out hl (Nat.le_refl _)).mono ?_
                rintro e w4 ⟨vb, vc, rfl, hrd, hb1⟩
                have HRD1 : Hid (RdP w4 va (n + 1) (pre ++ cut ps k n)) := HRD.out.below hb1
                have HL4 : Hid (Below w'.heap.size w' w4) := HLr.out.trans (hb1.mono hsr)
                have hs4 : w'.heap.size ≤ w4.heap.size := Nat.le_trans hsr hb1.size
                have HD1 : Hid (RdP w4 vb n (cut ps 0 n)) := hrd
                clear hrd hb1 HRD HLr HRr hsr
                go_wp2_with fail
                refine (has8 vb n vc (cut ps 0 n) w4 HD1.out (by omega)).mono ?_
                rintro e w5 ⟨rfl, hb1⟩
                have HRD2 : Hid (RdP w5 va (n + 1) (pre ++ cut ps k n)) := HRD1.out.below hb1
                have HL5 : Hid (Below w'.heap.size w' w5) := HL4.out.trans (hb1.mono hs4)
                have hs5 : w'.heap.size ≤ w5.heap.size := Nat.le_trans hs4 hb1.size
                clear hb1 HRD1 HL4 HD1 hs4
                go_wp2_with fail
                refine (has8 va (n + 1) vcap (pre ++ cut ps k n) w5 HRD2.out (by omega)).mono ?_
                rintro e w6 ⟨rfl, hb1⟩
                have HL6 : Hid (Below w'.heap.size w' w6) := HL5.out.trans (hb1.mono hs5)
                have HLE : Hid (Below w.heap.size w w6) := HL.out.trans (HL6.out.mono (Nat.le_of_lt hS0))
                obtain ⟨q0, q1, q2, q3⟩ := HQ.out.below HL6.out hS0
                clear hb1 HRD2 HL5 HL6 hs5 HL q0 q1 q3
                go_wp2_with (go_at_call 7; refine (iserr7 _ _).mono ?_; rintro e w7 ⟨rfl, rfl⟩)
                go_ret
                first
                  | exact ⟨rfl, HLE.out⟩
                  | exact ⟨by rw [hE1]; rfl, HLE.out⟩
                  | exact ⟨by simp [hE1, hsz], HLE.out⟩

set_option maxRecDepth 100000 in
set_option maxHeartbeats 4000000 in
/-- The place lies outside. -/
theorem walk_out (a : Option Addr) (len cap : Nat) (i l c s : Int) (m : ByteArray) (ps : List Pr) (w : World) (hr : RdP w a len ps) (hs : Short ps) (hlen : len ≤ maxLen) (hm : m.size ≤ maxLen) (hi : i < 0 ∨ (len : Int) < i) :
    Calls Try.prog 4 #[.slice a len cap, .int .i64 i, .agg #[.int .i64 l, .int .i64 c, .int .i64 s, .string m]] w fun e w' => e = .returned (.bool true) ∧ Below w.heap.size w w' := by
  have HBX : Hid (Below w.heap.size w (w.alloc (.cells #[.int .i64 l, .int .i64 c, .int .i64 s, .string m] 26))) := (Below.refl _ _).alloc (Nat.le_refl _) _
  have HR : Hid (RdP (w.alloc (.cells #[.int .i64 l, .int .i64 c, .int .i64 s, .string m] 26)) a len ps) := hr.below HBX.out
  have HS : Hid (Short ps) := hs
  have HQ : Hid (Boxed (w.alloc (.cells #[.int .i64 l, .int .i64 c, .int .i64 s, .string m] 26)) w.heap.size l c s m) := boxed_new w l c s m
  have HSZ : Hid (w.heap.size < (w.alloc (.cells #[.int .i64 l, .int .i64 c, .int .i64 s, .string m] 26)).heap.size) := by unfold Hid; simp
  clear hr hs
  go_enter Try.func4, Try.ntmps4
  go_wp2_with fail
  refine (bytes10 a len cap i l c s m ps _ HR.out HS.out hlen hm).mono ?_
  rintro e w0 ⟨b, rfl, hb, hbel⟩
  have hR0 := HR.out.below hbel
  have hQ0 := HQ.out.below hbel HSZ.out
  have hL0 := HBX.out.trans (hbel.mono (Nat.le_of_lt HSZ.out))
  have hS0 := Nat.lt_of_lt_of_le HSZ.out hbel.size
  clear HBX HR HQ HSZ hbel
  cases b
  · clear hb
    go_wp2_with fail
    go_ret
    exact ⟨rfl, hL0⟩
  have hl : len ≤ 1048576 := hb rfl
  clear hb hlen
  have HR : Hid (RdP w0 a len ps) := hR0
  have HL : Hid (Below w.heap.size w w0) := hL0
  obtain ⟨q0, q1, q2, q3⟩ := hQ0
  clear hR0 hL0
  unfold maxLen at hm
  by_cases hm1 : m.size ≤ 1048576
  case neg =>
    go_wp2_with fail
    go_ret
    exact ⟨rfl, HL.out⟩
  have ht0 : (0 : Int) ≤ 32 + (m.size : Int) := by omega
  have ht1 : 32 + (m.size : Int) ≤ 2097152 := by omega
  go_wp2_with fail
  refine (big6 a len cap (32 + (m.size : Int)) ps _ HR.out HS.out hl ht0 ht1).mono ?_
  rintro e w' ⟨b, rfl, hb, rfl⟩
  clear hb ht0 ht1
  cases b
  case true =>
    go_wp2_with fail
    go_ret
    exact ⟨rfl, HL.out⟩
  by_cases h0 : i < 0
  · clear hi
    go_wp2_with fail
    go_ret
    exact ⟨rfl, HL.out⟩
  · have h1 : (len : Int) < i := by omega
    clear hi
    go_wp2_with fail
    go_ret
    exact ⟨rfl, HL.out⟩

theorem walk (a : Option Addr) (len cap : Nat) (i l c s : Int) (m : ByteArray) (ps : List Pr) (w : World) (hr : RdP w a len ps) (hs : Short ps) (hnil : a = none → len = 0) (hlen : len ≤ maxLen) (hm : m.size ≤ maxLen) :
    Calls Try.prog 4 #[.slice a len cap, .int .i64 i, .agg #[.int .i64 l, .int .i64 c, .int .i64 s, .string m]] w fun e w' => e = .returned (.bool true) ∧ Below w.heap.size w w' := by
  by_cases hk : i < 0 ∨ (len : Int) < i
  · exact walk_out a len cap i l c s m ps w hr hs hlen hm hk
  · have := walk_in a len cap i.toNat l c s m ps w hr hs hnil hlen hm (by omega)
    rwa [show ((i.toNat : Nat) : Int) = i by omega] at this
#print axioms walk
end Go.Proofs.Qxb6608900a.fnHasErrorsOneMoreProblem

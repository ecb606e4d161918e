import Derived.Test.Qxb6608900aScan
namespace Go.Proofs.Qxb6608900a.fnHasErrorsAtAnyCut
open Go.RowKit

set_option maxRecDepth 100000 in
set_option maxHeartbeats 4000000 in
theorem walk_in (a : Option Addr) (len cap k : Nat) (ps : List Pr) (w : World) (hr : RdP w a len ps) (hs : Short ps) (hnil : a = none → len = 0) (hlen : len ≤ maxLen) (hk : k ≤ len) :
    Calls Try.prog 3 #[.slice a len cap, .int .i64 (k : Int)] w fun e w' => e = .returned (.bool true) ∧ Below w.heap.size w w' := by
  have HR : Hid (RdP w a len ps) := hr
  have HS : Hid (Short ps) := hs
  have HN : Hid (a = none → len = 0) := hnil
  have HP : Hid (ps.length = len) := hr.1
  have hd1 : decide ((k : Int) < 0) = false := by simp
  have hd2 : decide (len < k) = false := by simp; omega
  clear hr hs hnil
  go_enter Try.func3, Try.ntmps3
  go_wp2_with fail
  refine (bytes5 a len cap k ps w HR.out HS.out hlen).mono ?_
  rintro e w' ⟨b, rfl, hb, rfl⟩
  cases b
  · clear hb
    go_wp2_with fail
    go_ret
    exact ⟨rfl, Below.refl _ _⟩
  have hl : len ≤ 1048576 := hb rfl
  clear hb hlen
  go_wp2_with fail
  refine (big6 a len cap 0 ps _ HR.out HS.out hl (by omega) (by omega)).mono ?_
  rintro e w' ⟨b, rfl, hb, rfl⟩
  clear hb
  cases b
  case true =>
    go_wp2_with fail
    go_ret
    exact ⟨rfl, Below.refl _ _⟩
  go_wp2_with fail
  go_loop [5, 6, 7] (fun f l c => ∃ (j F : Nat) (L : Int), j ≤ len ∧ F ≤ len ∧ -1 ≤ L ∧ L ≤ len ∧ c = .int .i64 (j : Int) ∧ f = .int .i64 (F : Int) ∧ l = .int .i64 L ∧ Hid (Scan ps len j F L)) (fun _ _ c => len - (intOf c).toNat)
  case atStart => exact ⟨0, len, -1, Nat.zero_le _, Nat.le_refl _, by omega, by omega, rfl, rfl, rfl, scan_zero ps len⟩
  case round =>
    obtain ⟨j, F, L, hj, hF, hL1, hL2, rfl, rfl, rfl, HSC⟩ := hrel
    by_cases hlt : j < len
    · obtain ⟨b, off, rfl, hb, h0, h1, h2, h3⟩ := HR.out.2 j hlt
      have hno := fun h => scan_no HSC.out HP.out hlt h
      have hyes := fun f' h hf => scan_yes (f' := f') HSC.out HP.out hlt h hf
      generalize (ps.getD j pr0).2.2.1 = s at *
      clear h0 h1 h3
      by_cases hse : (s == 0) = true
      · by_cases hF2 : F = len
        · have HY : Hid (Scan ps len (j + 1) j j) := hyes j hse (Or.inl ⟨hF2, rfl⟩)
          have heq : ((F : Int) == (len : Int)) = true := by simp; omega
          clear hno hyes hF2
          go_wp2_with (go_at_call 7; refine (iserr7 _ _).mono ?_; rintro e w1 ⟨rfl, rfl⟩)
          go_round
          case rel => exact ⟨j + 1, j, j, by omega, by omega, by omega, by omega, by go_num, rfl, rfl, HY⟩
          case measure => simp [intOf]; omega
        · have HY : Hid (Scan ps len (j + 1) F j) := hyes F hse (Or.inr ⟨hF2, rfl⟩)
          have heq : ((F : Int) == (len : Int)) = false := by simp; omega
          clear hno hyes hF2
          go_wp2_with (go_at_call 7; refine (iserr7 _ _).mono ?_; rintro e w1 ⟨rfl, rfl⟩)
          go_round
          case rel => exact ⟨j + 1, F, j, by omega, by omega, by omega, by omega, by go_num, rfl, rfl, HY⟩
          case measure => simp [intOf]; omega
      · have hse' : (s == 0) = false := by simpa using hse
        have HY : Hid (Scan ps len (j + 1) F L) := hno hse'
        clear hno hyes hse
        go_wp2_with (go_at_call 7; refine (iserr7 _ _).mono ?_; rintro e w1 ⟨rfl, rfl⟩)
        go_round
        case rel => exact ⟨j + 1, F, L, by omega, by omega, by omega, by omega, by go_num, rfl, rfl, HY⟩
        case measure => simp [intOf]; omega
    · obtain rfl : j = len := by omega
      have hL := HSC.out.2.2.2.1 k hk
      have hRr := HSC.out.2.2.2.2 k hk
      have hW := cut_whole ps k j HP.out
      clear HSC hlt
      generalize hbl : hasE (cut ps 0 k) = bl at *
      generalize hbr : hasE (cut ps k j) = br at *
      cases bl <;> cases br
      all_goals
        simp only [Bool.or_false, Bool.or_true, Bool.or_self] at hW
        have hL' := hL.symm
        have hR' := hRr.symm
        have hN' : decide (F < k) = _ := (decide_eq_decide.2 (by omega)).trans hL'
        clear hL hRr
        go_wp2_with fail
        refine (to9_zero a j cap ps j _ HR.out HN.out hl (Nat.le_refl _)).mono ?_
        rintro e w1 ⟨va, vc, rfl, hrd, hb1⟩
        have HR1 : Hid (RdP w1 a j ps) := HR.out.below hb1
        have HL1 : Hid (Below w'.heap.size w' w1) := hb1
        have HD1 : Hid (RdP w1 va j (cut ps 0 j)) := hrd
        clear hrd hb1
        go_wp2_with fail
        refine (has8 va j vc (cut ps 0 j) w1 HD1.out (by omega)).mono ?_
        rintro e w2 ⟨rfl, hb1⟩
        have HR2 : Hid (RdP w2 a j ps) := HR1.out.below hb1
        have HL2 : Hid (Below w'.heap.size w' w2) := HL1.out.trans (hb1.mono HL1.out.size)
        clear hb1 HD1 HR1 HL1
        go_wp2_with fail
        refine (to9_zero a j cap ps k _ HR2.out HN.out hl hk).mono ?_
        rintro e w3 ⟨va2, vc2, rfl, hrd, hb1⟩
        have HR3 : Hid (RdP w3 a j ps) := HR2.out.below hb1
        have HL3 : Hid (Below w'.heap.size w' w3) := HL2.out.trans (hb1.mono HL2.out.size)
        have HD3 : Hid (RdP w3 va2 k (cut ps 0 k)) := hrd
        clear hrd hb1 HR2 HL2
        go_wp2_with fail
        refine (has8 va2 k vc2 (cut ps 0 k) w3 HD3.out (by omega)).mono ?_
        rintro e w4 ⟨rfl, hb1⟩
        have HR4 : Hid (RdP w4 a j ps) := HR3.out.below hb1
        have HL4 : Hid (Below w'.heap.size w' w4) := HL3.out.trans (hb1.mono HL3.out.size)
        clear hb1 HD3 HR3 HL3
        go_wp2_with fail
        refine (to9 a j cap ps k j _ HR4.out HN.out hl hk (Nat.le_refl _)).mono ?_
        rintro e w5 ⟨va3, vc3, rfl, hrd, hb1⟩
        have HL5 : Hid (Below w'.heap.size w' w5) := HL4.out.trans (hb1.mono HL4.out.size)
        have HD5 : Hid (RdP w5 va3 (j - k) (cut ps k j)) := hrd
        clear hrd hb1 HR4 HL4
        go_wp2_with fail
        refine (has8 va3 (j - k) vc3 (cut ps k j) w5 HD5.out (by omega)).mono ?_
        rintro e w6 ⟨rfl, hb1⟩
        have HL6 : Hid (Below w'.heap.size w' w6) := HL5.out.trans (hb1.mono HL5.out.size)
        clear hb1 HD5 HL5
        go_wp2_with fail
        go_ret
        first
          | exact ⟨rfl, HL6.out⟩
          | exact ⟨by rw [hN']; rfl, HL6.out⟩

set_option maxRecDepth 100000 in
set_option maxHeartbeats 1000000 in
/-- The cut lies outside. -/
theorem walk_out (a : Option Addr) (len cap : Nat) (k : Int) (ps : List Pr) (w : World) (hr : RdP w a len ps) (hs : Short ps) (hlen : len ≤ maxLen) (hk : k < 0 ∨ (len : Int) < k) :
    Calls Try.prog 3 #[.slice a len cap, .int .i64 k] w fun e w' => e = .returned (.bool true) ∧ Below w.heap.size w w' := by
  have HR : Hid (RdP w a len ps) := hr
  have HS : Hid (Short ps) := hs
  clear hr hs
  go_enter Try.func3, Try.ntmps3
  go_wp2_with fail
  refine (bytes5 a len cap k ps w HR.out HS.out hlen).mono ?_
  rintro e w' ⟨b, rfl, hb, rfl⟩
  cases b
  · clear hb
    go_wp2_with fail
    go_ret
    exact ⟨rfl, Below.refl _ _⟩
  have hl : len ≤ 1048576 := hb rfl
  clear hb hlen
  go_wp2_with fail
  refine (big6 a len cap 0 ps _ HR.out HS.out hl (by omega) (by omega)).mono ?_
  rintro e w' ⟨b, rfl, hb, rfl⟩
  clear hb
  cases b
  case true =>
    go_wp2_with fail
    go_ret
    exact ⟨rfl, Below.refl _ _⟩
  by_cases h0 : k < 0
  · clear hk
    go_wp2_with fail
    go_ret
    exact ⟨rfl, Below.refl _ _⟩
  · have h1 : (len : Int) < k := by omega
    clear hk
    go_wp2_with fail
    go_ret
    exact ⟨rfl, Below.refl _ _⟩

theorem walk (a : Option Addr) (len cap : Nat) (k : Int) (ps : List Pr) (w : World) (hr : RdP w a len ps) (hs : Short ps) (hnil : a = none → len = 0) (hlen : len ≤ maxLen) :
    Calls Try.prog 3 #[.slice a len cap, .int .i64 k] w fun e w' => e = .returned (.bool true) ∧ Below w.heap.size w w' := by
  by_cases hk : k < 0 ∨ (len : Int) < k
  · exact walk_out a len cap k ps w hr hs hlen hk
  · have := walk_in a len cap k.toNat ps w hr hs hnil hlen (by omega)
    rwa [show ((k.toNat : Nat) : Int) = k by omega] at this
#print axioms walk
end Go.Proofs.Qxb6608900a.fnHasErrorsAtAnyCut

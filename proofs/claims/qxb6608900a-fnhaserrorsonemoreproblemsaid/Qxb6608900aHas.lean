import Derived.Test.Qxb6608900aRd
namespace Go.Proofs.Qxb6608900a
open Go.RowKit

/-- Is some problem an error? -/
def hasE (ps : List Pr) : Bool := ps.any fun p => p.2.2.1 == 0

theorem hasE_append (a b : List Pr) : hasE (a ++ b) = (hasE a || hasE b) := by unfold hasE; exact List.any_append

theorem hasE_take_succ (ps : List Pr) (k : Nat) (h : k < ps.length) : hasE (ps.take (k + 1)) = (hasE (ps.take k) || ((ps.getD k pr0).2.2.1 == 0)) := by
  rw [List.take_succ_eq_append_getElem h, hasE_append, List.getD_eq_getElem?_getD, List.getElem?_eq_getElem h]
  simp [hasE]

theorem hasE_at {ps : List Pr} {k : Nat} (h : k < ps.length) (he : ((ps.getD k pr0).2.2.1 == 0) = true) : hasE ps = true := by
  have e : ps = ps.take (k + 1) ++ ps.drop (k + 1) := (List.take_append_drop _ _).symm
  rw [e, hasE_append, hasE_take_succ ps k h, he]
  simp

/-- IndexFunc's end, behind a name. -/
def IdxEnd (ps : List Pr) (w : World) (e : Ending) (w' : World) : Prop := ∃ r : Int, e = .returned (.int .i64 r) ∧ decide (0 ≤ r) = hasE ps ∧ Below w.heap.size w w'

set_option maxHeartbeats 1000000 in
theorem idx15 (a : Option Addr) (len cap : Nat) (ps : List Pr) (w : World) (hr : RdP w a len ps) (hlen : len ≤ 2097152) :
    Calls Try.prog 15 #[.slice a len cap, .func (.func 14) #[] #[]] w (IdxEnd ps w) := by
  have HR : Hid (RdP w a len ps) := hr
  clear hr
  go_enter Try.func15, Try.ntmps15
  go_wp2
  go_loopw [8] (fun c wr => ∃ k : Nat, k ≤ len ∧ c = .int .i64 (k : Int) ∧ Hid (hasE (ps.take k) = false) ∧ Hid (Below w.heap.size w wr)) (fun c _ => len - (intOf c).toNat)
  case atStart => exact ⟨0, Nat.zero_le _, rfl, rfl, Below.refl _ _⟩
  case round =>
    obtain ⟨k, hk, rfl, HE, HL⟩ := hrel
    by_cases hlt : k < len
    · obtain ⟨b, off, rfl, hb, h0, h1, h2, h3⟩ := (HR.out.below HL.out).2 k hlt
      have hpl := HR.out.1
      have hts := hasE_take_succ ps k (by omega)
      have hat := fun h => hasE_at (ps := ps) (k := k) (by omega) h
      rw [HE.out, Bool.false_or] at hts
      generalize ps.getD k pr0 = p at *
      obtain ⟨l, c, s, m⟩ := p
      simp only [] at h0 h1 h2 h3 hts hat
      by_cases hs : (s == 0) = true
      · have HAT : Hid (hasE ps = true) := hat hs
        clear hat hts hpl
        go_wp2_with (go_at_call 14; refine (clos14 l c s m _).mono ?_; rintro e w1 ⟨rfl, rfl⟩)
        go_ret
        exact ⟨k, rfl, by rw [HAT.out]; simp, HL.out.alloc HL.out.size _⟩
      · have hs' : (s == 0) = false := by simpa using hs
        rw [hs'] at hts
        have HTS : Hid (hasE (ps.take (k + 1)) = false) := hts
        clear hat hts hs hpl
        go_wp2_with (go_at_call 14; refine (clos14 l c s m _).mono ?_; rintro e w1 ⟨rfl, rfl⟩)
        go_roundw
        case rel => exact ⟨k + 1, by omega, by go_num, HTS, HL.out.alloc HL.out.size _⟩
        case measure => simp [intOf]; omega
    · have HF : Hid (hasE ps = false) := by
        have := HE.out
        rw [List.take_of_length_le (by have := HR.out.1; omega)] at this
        exact this
      go_wp2
      go_ret
      exact ⟨-1, rfl, by rw [HF.out]; rfl, HL.out⟩

/-- A bool is returned; nothing old has turned. -/
theorem contains13 (a : Option Addr) (len cap : Nat) (ps : List Pr) (w : World) (hr : RdP w a len ps) (hlen : len ≤ 2097152) :
    Calls Try.prog 13 #[.slice a len cap, .func (.func 14) #[] #[]] w fun e w' => e = .returned (.bool (hasE ps)) ∧ Below w.heap.size w w' := by
  have HR : Hid (RdP w a len ps) := hr
  clear hr
  go_enter Try.func13, Try.ntmps13
  go_wp2_with fail
  refine (idx15 a len cap ps w HR.out hlen).mono ?_
  rintro e w1 ⟨r, rfl, hd, hb⟩
  have HB : Hid _ := hb
  have HD : Hid _ := hd
  clear hb hd
  go_wp2_with fail
  go_ret
  exact ⟨by rw [← HD.out]; rfl, HB.out⟩

set_option maxHeartbeats 1000000 in
/-- hasErrors. -/
theorem has8 (a : Option Addr) (len cap : Nat) (ps : List Pr) (w : World) (hr : RdP w a len ps) (hlen : len ≤ 2097152) :
    Calls Try.prog 8 #[.slice a len cap] w fun e w' => e = .returned (.bool (hasE ps)) ∧ Below w.heap.size w w' := by
  have HR : Hid (RdP (w.alloc (.cells #[.slice none 0 0, .slice a len cap] 38)) a len ps) := hr.below ((Below.refl _ _).alloc (Nat.le_refl _) _)
  clear hr
  go_enter Try.func8, Try.ntmps8
  go_wp2_with (first | (go_at_call 12; go_in))
  go_wp2_with fail
  refine (contains13 a len cap ps _ HR.out hlen).mono ?_
  rintro e w1 ⟨rfl, hb⟩
  have HB : Hid (Below w.heap.size w w1) := ((Below.refl _ _).alloc (Nat.le_refl _) _).trans (hb.mono (by simp))
  clear hb
  go_wp2_with fail
  go_ret
  exact ⟨rfl, HB.out⟩
#print axioms has8
end Go.Proofs.Qxb6608900a

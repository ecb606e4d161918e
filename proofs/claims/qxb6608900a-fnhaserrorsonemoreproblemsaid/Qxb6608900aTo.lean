import Derived.Test.Qxb6608900aHas
import Derived.ArgAppend
namespace Go.Proofs.Qxb6608900a
open Go.RowKit

theorem Try.info33 : (Try.prog.info? 33).map (fun i => (i.zero, i.size, i.bytes)) = some (some (.agg #[.int .i64 0, .int .i64 0, .int .i64 0, .string ⟨#[]⟩]), 4, 40) := by kernel_rfl

/-- The cells of a list of problems. -/
def flat (ps : List Pr) : List Value := ps.flatMap prc

theorem flat_append (a b : List Pr) : flat (a ++ b) = flat a ++ flat b := by unfold flat; exact List.flatMap_append
theorem flat_one (p : Pr) : flat [p] = prc p := by simp [flat]

theorem flat_at : ∀ (ps : List Pr) (i f : Nat), i < ps.length → f < 4 → (flat ps)[i * 4 + f]? = (prc (ps.getD i pr0))[f]?
  | [], i, f, h, _ => by simp at h
  | p :: ps, 0, f, _, hf => by
    show (prc p ++ flat ps)[0 * 4 + f]? = _
    rw [Nat.zero_mul, Nat.zero_add, List.getElem?_append_left (by simpa [prc] using hf)]
    rfl
  | p :: ps, i + 1, f, h, hf => by
    show (prc p ++ flat ps)[(i + 1) * 4 + f]? = _
    rw [List.getElem?_append_right (by simp [prc]; omega), show (i + 1) * 4 + f - (prc p).length = i * 4 + f by simp [prc]; omega]
    have := flat_at ps i f (by simpa using h) hf
    simpa using this

/-- An owned row of problems, read. -/
theorem owns_problems {w : World} {base n : Nat} {v : Value} {ps : List Pr} (h : w.ownsRow base 33 4 v n (flat ps)) (hl : ps.length = n) :
    ∃ va cap, v = .slice va n cap ∧ RdP w va n ps := by
  rcases h.2 with ⟨hv, h0⟩ | ⟨g, cap, cur, rfl, hb, hg, hnc, _⟩
  · subst h0
    exact ⟨none, 0, hv, hl, fun i hi => absurd hi (Nat.not_lt_zero i)⟩
  · refine ⟨_, _, rfl, hl, fun i hi => ⟨g, 0, rfl, (Array.getElem?_eq_some_iff.1 hg).1, ?_, ?_, ?_, ?_⟩⟩
    · rw [Nat.zero_add, h.cellAt _ (by omega)]; exact flat_at ps i 0 (by omega) (by omega)
    · rw [Nat.zero_add, h.cellAt _ (by omega)]; exact flat_at ps i 1 (by omega) (by omega)
    · rw [Nat.zero_add, h.cellAt _ (by omega)]; exact flat_at ps i 2 (by omega) (by omega)
    · rw [Nat.zero_add, h.cellAt _ (by omega)]; exact flat_at ps i 3 (by omega) (by omega)

theorem grown_of_below {w w' : World} (h : Below w.heap.size w w') : w.grownBy w' none := ⟨h.os, h.tape, h.output, h.size, fun k hk _ => h.block k hk⟩

theorem owns_kept {w w' : World} {base : Nat} {e : TypeId} {size : Nat} {v : Value} {n : Nat} {xs : List Value} (h : w.ownsRow base e size v n xs) (hb : Below w.heap.size w w') : w'.ownsRow base e size v n xs := by
  refine h.kept (grown_of_below hb) ?_
  cases hv : v.ownBlock with
  | none => exact Or.inl rfl
  | some k => exact Or.inr (by simp)

theorem new_cells (w : World) (p : Pr) (t : TypeId) : ∀ j u, (prc p)[j]? = some u → (w.alloc (.cells #[.int .i64 p.1, .int .i64 p.2.1, .int .i64 p.2.2.1, .string p.2.2.2] t)).cell? ((⟨w.heap.size, 0, none⟩ : Addr).add j) = some u := by
  intro j u hj
  rw [Addr.add_lit, Nat.zero_add, World.cell?_alloc_at (hn := rfl), List.getElem?_toArray]
  exact hj

theorem one_prc (p : Pr) : ∀ u ∈ prc p, u.oneCell' = true := by
  intro u hu
  simp only [prc, List.mem_cons, List.not_mem_nil, or_false] at hu
  rcases hu with rfl | rfl | rfl | rfl <;> rfl

/-- toProblems' end, behind a name. -/
def ToEnd (qs : List Pr) (n : Nat) (w : World) (e : Ending) (w' : World) : Prop := ∃ va cap, e = .returned (.slice va n cap) ∧ RdP w' va n qs ∧ Below w.heap.size w w'

def cut (ps : List Pr) (i j : Nat) : List Pr := (ps.drop i).take (j - i)

theorem cut_self (ps : List Pr) (i : Nat) : cut ps i i = [] := by simp [cut]
theorem cut_len (ps : List Pr) (i j : Nat) (h1 : i ≤ j) (h2 : j ≤ ps.length) : (cut ps i j).length = j - i := by simp [cut]; omega
theorem cut_succ (ps : List Pr) (i j : Nat) (h1 : i ≤ j) (h2 : j < ps.length) : cut ps i (j + 1) = cut ps i j ++ [ps.getD j pr0] := by
  unfold cut
  have hl : j - i < (ps.drop i).length := by simp; omega
  rw [show j + 1 - i = (j - i) + 1 by omega, List.take_succ_eq_append_getElem hl]
  congr 2
  rw [List.getElem_drop, List.getD_eq_getElem?_getD, List.getElem?_eq_getElem h2]
  simp [show i + (j - i) = j by omega]

set_option maxHeartbeats 2000000 in
theorem to9 (a : Option Addr) (len cap : Nat) (ps : List Pr) (i j : Nat) (w : World) (hr : RdP w a len ps) (hnil : a = none → len = 0) (hlen : len ≤ 1048576) (hij : i ≤ j) (hj : j ≤ len) :
    Calls Try.prog 9 #[.slice a len cap, .int .i64 (i : Int), .int .i64 (j : Int)] w (ToEnd (cut ps i j) (j - i) w) := by
  have hq : ∀ (w : World) (a : Option Addr) (n c n' c' : Nat), (binOp .eql 22 (.slice a n c) (.slice none n' c')).run Try.prog w = .ok (.bool a.isNone) w := fun w a n c n' c' => Lib.run_eql_slice_nil w _ _ a n c n' c' Try.underlying22
  cases ha : a with
  | none =>
    subst ha
    have h0 := hnil rfl
    obtain rfl : j = 0 := by omega
    obtain rfl : i = 0 := by omega
    clear hnil hr hij hj
    go_enter Try.func9, Try.ntmps9
    go_wp2
    go_ret
    exact ⟨none, 0, rfl, ⟨by simp [cut], fun i hi => absurd hi (Nat.not_lt_zero i)⟩, Below.refl _ _⟩
  | some x =>
    subst ha
    clear hnil
    obtain ⟨i0, hi, hz0, hz1, hz2⟩ := info_parts Try.info33
    have hpl := hr.1
    have HR : Hid (RdP w (some x) len ps) := hr
    have HPL : Hid (ps.length = len) := hpl
    have hsub : (j : Int) - (i : Int) = ((j - i : Nat) : Int) := by omega
    clear hr hpl
    go_enter Try.func9, Try.ntmps9
    go_wp2_with (at_make; (refine wpList_make_own _ rfl (.const (.int .i64 0)) (.tmp 13) 28 rfl w.heap.size 33 i0 _ 4 Try.underlying28 hi hz0 hz1 .i64 .i64 _ (j - i) rfl rfl rfl ?b1 ?b2 ?b3 ?_))
    case b1 => rw [hz2]; omega
    case b2 => unfold maxLen; omega
    case b3 => exact Nat.le_refl _
    intro w1 hown1 hgrow1
    have HO1 : Hid (w1.ownsRow w.heap.size 33 4 (.slice (some ⟨w.heap.size, 0, none⟩) 0 (j - i)) 0 []) := hown1
    have HL1 : Hid (Below w.heap.size w w1) := (Below.refl _ _).grown hgrow1 (Nat.le_refl _) (fun k h => by cases h)
    have hs1 : w.heap.size ≤ w1.heap.size := hgrow1.size
    clear hown1 hgrow1 hq hsub
    go_wp2_with fail
    go_loopw [7, 8] (fun v c wr => ∃ k : Nat, i ≤ k ∧ k ≤ j ∧ c = .int .i64 (k : Int) ∧ Hid (wr.ownsRow w.heap.size 33 4 v (k - i) (flat (cut ps i k))) ∧ Hid (Below w.heap.size w wr) ∧ w.heap.size ≤ wr.heap.size) (fun _ c _ => j - (intOf c).toNat)
    case atStart => exact ⟨i, Nat.le_refl _, hij, rfl, by unfold Hid; rw [cut_self, Nat.sub_self]; exact HO1, HL1, hs1⟩
    case round =>
      obtain ⟨k, hk1, hk2, rfl, HO, HL, hsr⟩ := hrel
      by_cases hlt : k < j
      · obtain ⟨b, off, ex, hb, h0, h1, h2, h3⟩ := (HR.out.below HL.out).2 k (by omega)
        simp only [Option.some.injEq] at ex
        subst ex
        have HCS : Hid (flat (cut ps i (k + 1)) = flat (cut ps i k) ++ prc (ps.getD k pr0)) := by
          unfold Hid; rw [cut_succ ps i k hk1 (by have := HPL.out; omega), flat_append, flat_one]
        generalize ps.getD k pr0 = p at *
        obtain ⟨l, c, s, m⟩ := p
        simp only [] at h0 h1 h2 h3
        go_wp2_with fail
        refine (toprob11 l c s m _).mono ?_
        rintro e w2 ⟨rfl, hb2⟩
        have HO2 : Hid (w2.ownsRow w.heap.size 33 4 u7 (k - i) (flat (cut ps i k))) := owns_kept HO.out hb2
        have HL2 : Hid (Below w.heap.size w w2) := HL.out.trans (hb2.mono hsr)
        have hs2 : w.heap.size ≤ w2.heap.size := Nat.le_trans hsr hb2.size
        clear hb2 HO HL h0 h1 h2 h3
        go_wp2_with (at_builtin; (refine wpList_append_own _ rfl (.tmp 21) (.tmp 27) 28 rfl w.heap.size 33 i0 _ 4 40 Try.underlying28 hi hz0 hz1 hz2 rfl (by decide) _ (k - i) _ rfl (HO2.out.alloc _) ⟨_, 0, none⟩ 1 1 (prc (l, c, s, m)) rfl rfl ?k1 ?k2 ?k3 ?k4 ?k5 ?_))
        case k1 => exact new_cells w2 (l, c, s, m) 33
        case k2 => exact one_prc _
        case k3 => unfold maxLen; omega
        case k4 => omega
        case k5 => simp; omega
        intro v3 w3 hown3 hgrow3 _
        have HO3 : Hid (w3.ownsRow w.heap.size 33 4 v3 (k + 1 - i) (flat (cut ps i (k + 1)))) := by
          unfold Hid; rw [HCS.out, show k + 1 - i = k - i + 1 by omega]; exact hown3
        have hbel3 : Below w.heap.size _ w3 := (Below.refl w.heap.size _).grown hgrow3 (by simp; omega) (fun q h => (HO2.out.lt q h).1)
        have HL3 : Hid (Below w.heap.size w w3) := (HL2.out.alloc (by omega) _).trans hbel3
        have hs3 : w.heap.size ≤ w3.heap.size := by have := hbel3.size; simp at this; omega
        clear hown3 hgrow3 hbel3 HO2 HL2 HCS
        go_wp2_with fail
        go_roundw
        case rel => exact ⟨k + 1, by omega, by omega, by go_num, HO3, HL3, hs3⟩
        case measure => simp [intOf]; omega
      · obtain rfl : k = j := by omega
        obtain ⟨va, vcap, rfl, hrd⟩ := owns_problems HO.out (cut_len ps i k hk1 (by have := HPL.out; omega))
        have HRD : Hid (RdP wr va (k - i) (cut ps i k)) := hrd
        clear hrd
        go_wp2_with fail
        go_ret
        exact ⟨va, vcap, rfl, HRD.out, HL.out⟩
#print axioms to9
end Go.Proofs.Qxb6608900a

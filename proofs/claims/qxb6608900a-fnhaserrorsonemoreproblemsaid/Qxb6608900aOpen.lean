import Derived.Test.Qxb6608900aRd
import Derived.ProofKit
import Derived.OpenShut
import Derived.Deep.Slices
import Derived.Lib.SmallJoins
namespace Go.Proofs.Qxb6608900a
open Go.ChangeShapes Go.WideShapes Go.ChangeAt Go.RowKit


/-- One element: its four cells, read. -/
theorem open_pr {H : Type} {enc : TypeId × Value → H} {w : World} {base : Nat} {spare : Nat → Bool} {held : Bool} {fuel : Nat} {cs : List Value} {x : DataW H × List MemPlace}
    (h : DataW.trod enc Try.prog w base spare held fuel 26 cs = some x) : ∃ p : Pr, cs = prc p ∧ p.2.2.2.size ≤ maxLen := by
  obtain ⟨y0, y1, y2, y3, n, _, hl, h0, h1, h2, h3⟩ := Go.Joins.trod_struct4 Try.underlying26 h
  have hC : Try.prog.cellsOf 26 = 4 := by kernel_rfl
  have c3 : Try.prog.cellsOf 3 = 1 := by kernel_rfl
  have c9 : Try.prog.cellsOf 9 = 1 := by kernel_rfl
  rw [hC] at hl
  match cs, hl with
  | [v0, v1, v2, v3], _ =>
    simp only [c3, c9, List.drop_zero, List.drop_succ_cons, List.take_succ_cons, List.take_zero] at h0 h1 h2 h3
    obtain ⟨n0, e0, _, _⟩ := DataW.trod_int Try.underlying3 h0
    obtain ⟨n1, e1, _, _⟩ := DataW.trod_int Try.underlying3 h1
    obtain ⟨n2, e2, _, _⟩ := DataW.trod_int Try.underlying3 h2
    obtain ⟨s3, e3, _, hs⟩ := DataW.trod_string Try.underlying9 h3
    simp only [List.cons.injEq, and_true] at e0 e1 e2 e3
    subst e0 e1 e2 e3
    exact ⟨(n0, n1, n2, s3), rfl, hs⟩

theorem short0 : pr0.2.2.2.size ≤ maxLen := by unfold maxLen; exact Nat.zero_le _

/-- The slice, read as a list of problems. -/
theorem open_problems {H : Type} {enc : TypeId × Value → H} {w : World} {base : Nat} {spare : Nat → Bool} {held : Bool} {fuel : Nat} {a : Option Addr} {len cap : Nat} {x : DataW H × List MemPlace}
    (h : DataW.trod enc Try.prog w base spare held fuel 22 [.slice a len cap] = some x) : ∃ ps, RdP w a len ps ∧ Short ps ∧ (a = none → len = 0) ∧ len ≤ maxLen := by
  rcases Go.Deep.open_slice Try.underlying22 h with ⟨hcs, _⟩ | ⟨b, l, c, m, n, D, Pl, hcs, hb, hl, hm, hmm, _, hx⟩
  · simp only [List.cons.injEq, Value.slice.injEq, and_true] at hcs
    obtain ⟨rfl, rfl, rfl⟩ := hcs
    exact ⟨[], ⟨rfl, fun i hi => absurd hi (Nat.not_lt_zero i)⟩, fun i => by rw [List.getD_nil]; exact short0, fun _ => rfl, Nat.zero_le _⟩
  · simp only [List.cons.injEq, Value.slice.injEq, and_true] at hcs
    obtain ⟨rfl, rfl, rfl⟩ := hcs
    have hlm : len ≤ m := by rw [hmm]; split <;> omega
    have hC : Try.prog.cellsOf 26 = 4 := by kernel_rfl
    have each : ∀ i, i < len → ∃ p : Pr, (∀ f, f < 4 → w.cell? (b.add (i * 4 + f)) = (prc p)[f]?) ∧ p.2.2.2.size ≤ maxLen := by
      intro i hi
      obtain ⟨cs', h1, h2⟩ := hx i (by omega)
      rw [hC] at h1
      obtain ⟨_, hlen, hcell⟩ := World.cells?_some h1
      obtain ⟨p, rfl, hp⟩ := open_pr h2
      exact ⟨p, fun f hf => by rw [← Go.Deep.add_add]; exact hcell f hf, hp⟩
    obtain ⟨g, hg⟩ := Go.Deep.choose_lt each
    have hgd : ∀ i, i < len → ((List.range len).map g).getD i pr0 = g i := by
      intro i hi
      simp [hi]
    refine ⟨(List.range len).map g, ⟨by simp, fun i hi => ?_⟩, fun i => ?_, fun h => (by cases h), by omega⟩
    · rw [hgd i hi]
      obtain ⟨b0, off, spot⟩ := b
      have hblk : ∀ b o v (_ : Unit), w.cell? ⟨b, o, none⟩ = some v → b < w.heap.size := fun b o v _ h => World.block_lt_of_cell? _ _ h
      have h0 := (hg i hi).1 0 (by omega)
      have h1 := (hg i hi).1 1 (by omega)
      have h2 := (hg i hi).1 2 (by omega)
      have h3 := (hg i hi).1 3 (by omega)
      have hspot : spot = none := by simpa [Addr.add] using World.cell?_spot (((hg 0 (by omega)).1 0 (by omega)).trans rfl)
      subst hspot
      rw [Go.WideShapes.add_plain] at h0 h1 h2 h3
      exact ⟨b0, off, rfl, hblk _ _ _ () h0, h0, by rw [Nat.add_assoc]; exact h1, by rw [Nat.add_assoc]; exact h2, by rw [Nat.add_assoc]; exact h3⟩
    · by_cases hi : i < len
      · rw [hgd i hi]; exact (hg i hi).2
      · have : ((List.range len).map g).getD i pr0 = pr0 := by rw [List.getD_eq_getElem?_getD, List.getElem?_eq_none (by simp; omega)]; rfl
        rw [this]
        exact short0
#print axioms open_problems
end Go.Proofs.Qxb6608900a

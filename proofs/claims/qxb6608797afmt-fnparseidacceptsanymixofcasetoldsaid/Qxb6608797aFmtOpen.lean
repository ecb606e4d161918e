import Derived.Test.Qxb6608797aFmtRows
import Derived.Test.Qxb6608797aFmtTie
import Derived.Test.Qxb6608797aFmtCards
import Derived.Test.Qxb6608797aFmtHex
import Derived.ProofKit
import Derived.ChangeSame
import Derived.OpenShut
import Derived.Stop.JoinedAt
import Derived.Stop.JoinedTold
import Derived.SevenTiedAt
namespace Go.Proofs.Qxb6608797aFmt
open Go.ChangeShapes Go.WideShapes Go.ChangeAt Go.RowKit Go.Kit
open Go.Extern.Stop Go.Stop Go.Extern

theorem Tryf.own : ownKnob Tryf.prog.godebug = none := by kernel_rfl
theorem Tryf.laidOut : laidOutB Tryf.pinned.checked.prog = true := by kernel_rfl
theorem Tryf.stops : Tryf.pinned.checked.prog.stops = ["fmt.errorf"] := by kernel_rfl
theorem Tryf.stopKnobs : Tryf.pinned.checked.prog.stopKnobs = [] := by kernel_rfl
theorem Tryf.quiet (os : Os) : Stop.quiet Tryf.pinned.checked.prog os := by
  intro k hk
  rw [Tryf.stopKnobs] at hk
  cases hk
theorem Tryf.cells22 : Tryf.prog.cellsOf 22 = 32 := by kernel_rfl

/-- An array of 32 bytes by value, opened. -/
theorem open_bytes32 {H : Type} {enc : TypeId × Value → H} {W : World} {base : Nat} {v : Value} {d : DataW H} {p : List MemPlace} {b0 : Nat} {sp : Nat → Bool} {held : Bool}
    (hv : Value.okWide Tryf.prog W .any base 22 v) (h : DataW.Trod enc Tryf.prog W b0 sp held 22 v d p) :
    ∃ xs : List Int, v = .agg (xs.map (Value.int .u8)).toArray ∧ xs.length = 32 ∧ ∀ x ∈ xs, 0 ≤ x ∧ x ≤ 255 := by
  obtain ⟨cs, rfl, hsz, _⟩ : ∃ cs, v = .agg cs ∧ cs.size = Tryf.prog.cellsOf 22 ∧ Row.okWide Tryf.prog W .any base 22 cs := by
    simpa [Value.okWide, Tryf.underlying22] using hv
  rw [Tryf.cells22] at hsz
  obtain ⟨fuel, hf⟩ := h
  obtain ⟨ys, m, _, _, hl, hyl, hi⟩ := DataW.trod_array Tryf.underlying22 hf
  have hcell : ∀ i, i < 32 → ∃ n, cs[i]? = some (.int .u8 n) ∧ (Lit.int .u8 n).wf = true := by
    intro i hlt
    have hy := hi i hlt
    rw [List.getElem?_eq_getElem (by omega)] at hy
    obtain ⟨n, e, _, hw⟩ := DataW.trod_int Tryf.underlying5 hy
    refine ⟨n, ?_, hw⟩
    rw [Tryf.cells5] at e
    have : ((Value.agg cs).cells.toList.drop (i * 1))[0]? = some (.int .u8 n) := by
      have h2 : (((Value.agg cs).cells.toList.drop (i * 1)).take 1)[0]? = some (.int .u8 n) := by rw [e]; rfl
      simpa using h2
    simpa [Value.cells] using this
  refine ⟨cs.toList.map intOf, ?_, by simpa using hsz, ?_⟩
  · congr 1
    apply Array.ext_getElem?
    intro i
    by_cases hlt : i < 32
    · obtain ⟨n, e, _⟩ := hcell i hlt
      simp [e, intOf]
    · rw [Array.getElem?_eq_none (by omega), Array.getElem?_eq_none (by simp; omega)]
  · intro x hx
    obtain ⟨v, hv, rfl⟩ := List.mem_map.1 hx
    obtain ⟨i, hlt, rfl⟩ := List.getElem_of_mem hv
    obtain ⟨n, e, hw⟩ := hcell i (by simpa [hsz] using hlt)
    have e2 : cs.toList[i] = .int .u8 n := by
      have : cs.toList[i]? = some (.int .u8 n) := by simpa using e
      rw [List.getElem?_eq_getElem hlt] at this
      exact Option.some.inj this
    rw [e2]
    exact bounds_u8 hw

end Go.Proofs.Qxb6608797aFmt

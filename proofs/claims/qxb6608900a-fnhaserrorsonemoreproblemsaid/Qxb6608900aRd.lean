import Derived.Test.Qxb6608900aRows
import Derived.WalkKit
import Derived.WalkSpells
import Derived.Below
namespace Go.Proofs.Qxb6608900a
open Go.RowKit

/-- A problem: line, column, severity, message. -/
abbrev Pr := Int × Int × Int × ByteArray
def pr0 : Pr := (0, 0, 0, ByteArray.empty)

/-- Its four cells. -/
def prc (p : Pr) : List Value := [.int .i64 p.1, .int .i64 p.2.1, .int .i64 p.2.2.1, .string p.2.2.2]

/-- The slice with address 'a' and length 'len' (elements of four cells) reads as ps, in a block that is there. -/
def RdP (w : World) (a : Option Addr) (len : Nat) (ps : List Pr) : Prop :=
  ps.length = len ∧ ∀ i, i < len → ∃ b off, a = some ⟨b, off, none⟩ ∧ b < w.heap.size ∧
    w.cell? ⟨b, off + i * 4, none⟩ = some (.int .i64 (ps.getD i pr0).1) ∧ w.cell? ⟨b, off + i * 4 + 1, none⟩ = some (.int .i64 (ps.getD i pr0).2.1) ∧
    w.cell? ⟨b, off + i * 4 + 2, none⟩ = some (.int .i64 (ps.getD i pr0).2.2.1) ∧ w.cell? ⟨b, off + i * 4 + 3, none⟩ = some (.string (ps.getD i pr0).2.2.2)

theorem RdP.below {w w' : World} {a : Option Addr} {len : Nat} {ps : List Pr} (h : RdP w a len ps) (hb : Below w.heap.size w w') : RdP w' a len ps := by
  refine ⟨h.1, fun i hi => ?_⟩
  obtain ⟨b, off, e, hlt, h0, h1, h2, h3⟩ := h.2 i hi
  exact ⟨b, off, e, Nat.lt_of_lt_of_le hlt hb.size, (hb.cell (p := ⟨b, _, none⟩) hlt).trans h0, (hb.cell (p := ⟨b, _, none⟩) hlt).trans h1, (hb.cell (p := ⟨b, _, none⟩) hlt).trans h2, (hb.cell (p := ⟨b, _, none⟩) hlt).trans h3⟩

/-- Every message is a string that can be. -/
def Short (ps : List Pr) : Prop := ∀ i, (ps.getD i pr0).2.2.2.size ≤ maxLen

/-- Some bool is returned, the world stands; where it is true, p. (Behind a name: the walk does not look into it.) -/
def SomeBool (p : Prop) (w : World) (e : Ending) (w' : World) : Prop := ∃ b : Bool, e = .returned (.bool b) ∧ (b = true → p) ∧ w' = w

theorem SomeBool.no {p : Prop} {w : World} : SomeBool p w (.returned (.bool false)) w := ⟨false, rfl, (fun h => by cases h), rfl⟩
theorem SomeBool.yes {p : Prop} {w : World} (h : p) : SomeBool p w (.returned (.bool true)) w := ⟨true, rfl, fun _ => h, rfl⟩

set_option maxHeartbeats 1000000 in
/-- zzBytes_FnHasErrorsAtAnyCut: some bool; where it is true the slice is not long. -/
theorem bytes5 (a : Option Addr) (len cap : Nat) (k : Int) (ps : List Pr) (w : World) (hr : RdP w a len ps) (hs : Short ps) (hlen : len ≤ maxLen) :
    Calls Try.prog 5 #[.slice a len cap, .int .i64 k] w (SomeBool (len ≤ 1048576) w) := by
  unfold maxLen at hlen
  by_cases hl : len ≤ 1048576
  · have HR : Hid (RdP w a len ps) := hr
    have HS : Hid (Short ps) := hs
    clear hr hs
    go_enter Try.func5, Try.ntmps5
    go_wp2
    go_loop [5, 6] (fun t i => ∃ (j : Nat) (z : Int), j ≤ len ∧ i = .int .i64 (j : Int) ∧ 0 ≤ z ∧ z ≤ 1048576 ∧ t = .int .i64 z) (fun _ i => len - (intOf i).toNat)
    case atStart => exact ⟨0, len, Nat.zero_le _, rfl, by omega, by omega, rfl⟩
    case round =>
      obtain ⟨j, z, hj, rfl, hz0, hz1, rfl⟩ := hrel
      by_cases hlt : j < len
      · obtain ⟨b, off, rfl, hb, h0, h1, h2, h3⟩ := HR.out.2 j hlt
        have hm := HS.out j
        unfold maxLen at hm
        generalize (ps.getD j pr0).2.2.2 = m at *
        clear h0 h1 h2
        by_cases hm1 : m.size ≤ 1048576
        · by_cases hz2 : z + m.size ≤ 1048576
          · go_wp2
            go_round
            case rel => exact ⟨j + 1, z + m.size, by omega, by go_num, by omega, by omega, rfl⟩
            case measure => simp [intOf]; omega
          · go_wp2
            go_ret
            exact SomeBool.no
        · go_wp2
          go_ret
          exact SomeBool.no
      · go_wp2
        go_ret
        exact SomeBool.yes (by first | exact hl | trivial)
  · go_enter Try.func5, Try.ntmps5
    go_wp2
    go_ret
    exact SomeBool.no

set_option maxHeartbeats 1000000 in
/-- problemsTooBig: some bool. -/
theorem big6 (a : Option Addr) (len cap : Nat) (t0 : Int) (ps : List Pr) (w : World) (hr : RdP w a len ps) (hs : Short ps) (hlen : len ≤ 1048576) (ht0 : 0 ≤ t0) (ht1 : t0 ≤ 2097152) :
    Calls Try.prog 6 #[.slice a len cap, .int .i64 t0] w (SomeBool True w) := by
  have HR : Hid (RdP w a len ps) := hr
  have HS : Hid (Short ps) := hs
  clear hr hs
  go_enter Try.func6, Try.ntmps6
  go_wp2
  go_loop [1, 5] (fun t i => ∃ (j : Nat) (z : Int), j ≤ len ∧ i = .int .i64 (j : Int) ∧ 0 ≤ z ∧ z ≤ 2097152 ∧ t = .int .i64 z) (fun _ i => len - (intOf i).toNat)
  case atStart => exact ⟨0, t0, Nat.zero_le _, rfl, by omega, by omega, rfl⟩
  case round =>
    obtain ⟨j, z, hj, rfl, hz0, hz1, rfl⟩ := hrel
    by_cases hlt : j < len
    · obtain ⟨b, off, rfl, hb, h0, h1, h2, h3⟩ := HR.out.2 j hlt
      have hm := HS.out j
      unfold maxLen at hm
      generalize (ps.getD j pr0).2.2.2 = m at *
      clear h0 h1 h2
      by_cases hm1 : m.size ≤ 1048576
      · by_cases hz2 : z + (32 + m.size) ≤ 1048576
        · go_wp2
          go_round
          case rel => exact ⟨j + 1, z + (32 + m.size), by omega, by go_num, by omega, by omega, rfl⟩
          case measure => simp [intOf]; omega
        · go_wp2
          go_ret
          exact SomeBool.yes trivial
      · go_wp2
        go_ret
        exact SomeBool.yes trivial
    · go_wp2
      go_ret
      exact SomeBool.no

/-- isError. -/
theorem iserr7 (s : Int) (w : World) : Calls Try.prog 7 #[.int .i64 s] w fun e w' => e = .returned (.bool (s == 0)) ∧ w' = w := by
  go_enter Try.func7, Try.ntmps7
  go_wp2
  go_ret
  exact ⟨rfl, rfl⟩

/-- The closure of HasErrors. -/
theorem clos14 (l c s : Int) (m : ByteArray) (w : World) : Calls Try.prog 14 #[.agg #[.int .i64 l, .int .i64 c, .int .i64 s, .string m]] w fun e w' => e = .returned (.bool (s == 0)) ∧ w' = w.alloc (.cells #[.int .i64 l, .int .i64 c, .int .i64 s, .string m] 33) := by
  go_enter Try.func14, Try.ntmps14
  go_wp2
  go_ret
  exact ⟨rfl, rfl⟩

/-- toProblem. -/
theorem toprob11 (l c s : Int) (m : ByteArray) (w : World) : Calls Try.prog 11 #[.agg #[.int .i64 l, .int .i64 c, .int .i64 s, .string m]] w fun e w' => e = .returned (.agg #[.int .i64 l, .int .i64 c, .int .i64 s, .string m]) ∧ Below w.heap.size w w' := by
  go_enter Try.func11, Try.ntmps11
  go_wp2
  exact bodyPost_ret (v := .agg #[.int .i64 l, .int .i64 c, .int .i64 s, .string m]) (by simp [results, Try.results11, go_sem]) rfl ⟨rfl, ((Below.refl _ _).alloc (Nat.le_refl _) _).alloc (by simp) _⟩
#print axioms toprob11
end Go.Proofs.Qxb6608900a

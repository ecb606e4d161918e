import Derived.Test.Qxb6608900aScan
namespace Go.Proofs.Qxb6608900a.fnHasErrorsOneMoreProblem
open Go.RowKit

/-- Some bool is returned, nothing old has turned; where it is true, p. -/
def SomeB (p : Prop) (w : World) (e : Ending) (w' : World) : Prop := ∃ b : Bool, e = .returned (.bool b) ∧ (b = true → p) ∧ Below w.heap.size w w'

theorem SomeB.no {p : Prop} {w w' : World} (h : Below w.heap.size w w') : SomeB p w (.returned (.bool false)) w' := ⟨false, rfl, (fun h => by cases h), h⟩
theorem SomeB.yes {p : Prop} {w w' : World} (h : Below w.heap.size w w') (hp : p) : SomeB p w (.returned (.bool true)) w' := ⟨true, rfl, fun _ => hp, h⟩

set_option maxRecDepth 100000 in
set_option maxHeartbeats 2000000 in
/-- zzBytes_FnHasErrorsOneMoreProblem: some bool; where it is true the slice and q's message are not long. -/
theorem bytes10 (a : Option Addr) (len cap : Nat) (i l c s : Int) (mq : ByteArray) (ps : List Pr) (w : World) (hr : RdP w a len ps) (hs : Short ps) (hlen : len ≤ maxLen) (hmq : mq.size ≤ maxLen) :
    Calls Try.prog 10 #[.slice a len cap, .int .i64 i, .agg #[.int .i64 l, .int .i64 c, .int .i64 s, .string mq]] w (SomeB (len ≤ 1048576) w) := by
  unfold maxLen at hlen hmq
  have HB : Hid (Below w.heap.size w (w.alloc (.cells #[.int .i64 l, .int .i64 c, .int .i64 s, .string mq] 26))) := (Below.refl _ _).alloc (Nat.le_refl _) _
  by_cases hl : len ≤ 1048576
  · have HR : Hid (RdP (w.alloc (.cells #[.int .i64 l, .int .i64 c, .int .i64 s, .string mq] 26)) a len ps) := hr.below HB.out
    have HS : Hid (Short ps) := hs
    clear hr hs
    go_enter Try.func10, Try.ntmps10
    go_wp2
    go_loop [7, 8] (fun t i => ∃ (j : Nat) (z : Int), j ≤ len ∧ i = .int .i64 (j : Int) ∧ 0 ≤ z ∧ z ≤ 1048576 ∧ t = .int .i64 z) (fun _ i => len - (intOf i).toNat)
    case atStart => exact ⟨0, len, Nat.zero_le _, rfl, by omega, by omega, rfl⟩
    case round =>
      obtain ⟨j, z, hj, rfl, hz0, hz1, rfl⟩ := hrel
      by_cases hlt : j < len
      · obtain ⟨b, off, rfl, hb, h0, h1, h2, h3⟩ := HR.out.2 j hlt
        have hm := HS.out j
        unfold maxLen at hm
        generalize (ps.getD j pr0).2.2.2 = m at *
        clear h0 h1 h2
        by_cases hm1 : m.size ≤ 1048576
        · by_cases hz2 : z + m.size ≤ 1048576
          · go_wp2
            go_round
            case rel => exact ⟨j + 1, z + m.size, by omega, by go_num, by omega, by omega, rfl⟩
            case measure => simp [intOf]; omega
          · go_wp2
            go_ret
            exact SomeB.no HB.out
        · go_wp2
          go_ret
          exact SomeB.no HB.out
      · by_cases hm1 : mq.size ≤ 1048576
        · by_cases hz2 : z + mq.size ≤ 1048576
          · go_wp2
            go_ret
            exact SomeB.yes HB.out (by first | exact hl | trivial)
          · go_wp2
            go_ret
            exact SomeB.no HB.out
        · go_wp2
          go_ret
          exact SomeB.no HB.out
  · clear hr
    go_enter Try.func10, Try.ntmps10
    go_wp2
    go_ret
    exact SomeB.no HB.out
#print axioms bytes10
end Go.Proofs.Qxb6608900a.fnHasErrorsOneMoreProblem

import Derived.Test.Qxb6608795aRows
import Derived.WalkKit
import Derived.WalkSpells
import Derived.ArgAppend
import Derived.Test.Qxb6608795aClone
import Derived.Test.Qxb6608795aLaw
namespace Go.Proofs.Qxb6608795a
open Go.RowKit

theorem holds_of_rd {w : World} {a : Option Addr} {len : Nat} {xs : List Int} (h : Rd w a len xs) : ∀ b, a = some b → ∀ j u, (xs.map (Value.int .u8))[j]? = some u → w.cell? (b.add j) = some u := by
  have := rd_news h (Nat.le_refl len)
  rw [List.take_of_length_le (by have := h.1; omega)] at this
  exact this

/-- z with its u lowest bits cleared, as the model reckons it. -/
def clr (z : Int) (u : Nat) : Int := bits BinOp.andNot IntKind.u8 z ((2 ^ u - 1) % 256)

theorem clr_fin : ∀ z : Fin 256, ∀ u : Fin 8, bits BinOp.andNot IntKind.u8 (z.val : Int) ((2 ^ u.val - 1) % 256) = ((z.val - z.val % 2 ^ u.val : Nat) : Int) := by decide +kernel

theorem clr_eq (z u : Nat) (hz : z < 256) (hu : u < 8) : clr (z : Int) u = ((z - z % 2 ^ u : Nat) : Int) := clr_fin ⟨z, hz⟩ ⟨u, hu⟩

/-- The octets of the first n, zeros where vs is shorter. -/
def body (vs : List Int) (n : Nat) : List Int := vs.take n ++ List.replicate (n - vs.length) 0

/-- .. the u lowest bits of the last one cleared. -/
def octs (vs : List Int) (n u : Nat) : List Int := (body vs n).set (n - 1) (clr ((body vs n).getD (n - 1) 0) u)

theorem body_len (vs : List Int) (n : Nat) : (body vs n).length = n := by simp [body]; omega

theorem body_eq (vs : List Int) (n m : Nat) (hm1 : m ≤ n) (hm2 : m ≤ vs.length) (hm3 : n ≤ m ∨ vs.length ≤ m) : vs.take m ++ List.replicate (n - m) 0 = body vs n := by
  unfold body
  rcases hm3 with h | h
  · have e : m = n := by omega
    subst e
    rw [show m - vs.length = m - m by omega]
  · have e : m = vs.length := by omega
    rw [e, List.take_of_length_le (Nat.le_refl _), List.take_of_length_le (by omega)]

theorem body_range (vs : List Int) (n : Nat) (h : ∀ x ∈ vs, 0 ≤ x ∧ x ≤ 255) (i : Nat) : 0 ≤ (body vs n).getD i 0 ∧ (body vs n).getD i 0 ≤ 255 := by
  rw [List.getD_eq_getElem?_getD]
  by_cases hi : i < (body vs n).length
  · rw [List.getElem?_eq_getElem hi, Option.getD_some]
    have hm := List.getElem_mem hi
    generalize (body vs n)[i] = x at *
    unfold body at hm
    rcases List.mem_append.1 hm with hm | hm
    · exact h _ (List.mem_of_mem_take hm)
    · have := List.eq_of_mem_replicate hm; omega
  · rw [List.getElem?_eq_none (by omega)]; simp

theorem last_at (bs vs : List Int) (u n m blen : Nat) (hb : bs.length = blen) (hn : 1 ≤ n) (hm1 : m ≤ n) (hm2 : m ≤ vs.length) (hm3 : n ≤ m ∨ vs.length ≤ m) :
    (bs ++ [(u : Int)] ++ vs.take m ++ List.replicate (n - m) 0)[blen + n]? = some ((body vs n).getD (n - 1) 0) := by
  rw [List.append_assoc (bs ++ [(u : Int)]), body_eq vs n m hm1 hm2 hm3, List.getElem?_append_right (by simp; omega)]
  have hl := body_len vs n
  rw [show blen + n - (bs ++ [(u : Int)]).length = n - 1 by simp; omega, List.getD_eq_getElem?_getD, List.getElem?_eq_getElem (by omega)]
  rfl

theorem set_at (bs vs : List Int) (u n m blen : Nat) (hb : bs.length = blen) (hn : 1 ≤ n) (hm1 : m ≤ n) (hm2 : m ≤ vs.length) (hm3 : n ≤ m ∨ vs.length ≤ m) :
    (bs ++ [(u : Int)] ++ vs.take m ++ List.replicate (n - m) 0).set (blen + n) (clr ((body vs n).getD (n - 1) 0) u) = bs ++ (u : Int) :: octs vs n u := by
  rw [List.append_assoc (bs ++ [(u : Int)]), body_eq vs n m hm1 hm2 hm3, List.set_append_right _ _ (by simp; omega), show blen + n - (bs ++ [(u : Int)]).length = n - 1 by simp; omega, List.append_assoc]
  rfl

theorem box_world (w : World) (va : Option Addr) (vlen vcap : Nat) (L : Int) (u : Int) :
    Below w.heap.size w ((w.alloc (.cells #[.slice va vlen vcap, .int .i64 L] 26)).alloc (.cells #[.int .u8 u] 5)) :=
  ((Below.refl _ _).alloc (Nat.le_refl _) _).alloc (by simp) _

set_option maxHeartbeats 1000000 in
theorem app_pos (va : Option Addr) (vlen vcap : Nat) (vs : List Int) (L : Int) (ba : Option Addr) (blen : Nat) (bs : List Int) (w : World)
    (hv : Rd w va vlen vs) (hb : Rd w ba blen bs) (hL2 : L ≤ 524288) (hvl : vlen ≤ 2097152) (hvc : vlen ≤ vcap) (hbl : blen ≤ 2097152) (hvn : va = none → vlen = 0 ∧ vcap = 0) (hbn : ba = none → blen = 0) (hL : 0 < L) (n u : Nat) (hn : (L + 7) / 8 = (n : Int)) (hu : 8 * (n : Int) - L = (u : Int)) :
    Calls Try.prog 7 #[.agg #[.slice va vlen vcap, .int .i64 L], .slice ba blen blen] w fun e w' =>
      ∃ v, e = .returned v ∧ w'.ownsRow w.heap.size 5 1 v (blen + 1 + n) ((bs ++ (u : Int) :: octs vs n u).map (Value.int .u8)) ∧ Below w.heap.size w w' := by
  obtain ⟨i0, hi, hz0, hz1, hz2⟩ := info_parts Try.info5
  have hu7 : u < 8 := by omega
  have hn1 : 1 ≤ n := by omega
  have hn2 : n ≤ 65536 := by omega
  have HV : Hid (Rd w va vlen vs) := hv
  have HVN : Hid (va = none → vlen = 0 ∧ vcap = 0) := hvn
  have HBN : Hid (ba = none → blen = 0) := hbn
  have HBL : Hid (bs.length = blen) := hb.1
  have HVL : Hid (vs.length = vlen) := hv.1
  have HB2 : Hid (Rd ((w.alloc (.cells #[.slice va vlen vcap, .int .i64 L] 26)).alloc (.cells #[.int .u8 (u : Int)] 5)) ba blen bs) := hb.below (box_world w va vlen vcap L u)
  clear hv hb hvn hbn
  go_enter Try.func7, Try.ntmps7
  go_wp2_with (at_builtin; (refine wpList_append_grows _ rfl (.tmp 20) (.tmp 22) 22 rfl 5 i0 (.int .u8 0) 1 1 Try.underlying22 hi hz0 hz1 hz2 rfl (by decide) ba blen blen (bs.map (Value.int .u8)) rfl ?g1 ?g2 ?g3 ⟨w.heap.size + 1, 0, none⟩ 1 1 [.int .u8 (u : Int)] rfl rfl ?g4 ?g5 ?g6 ?g7 ?g8 ?_))
  case g1 => intro h; exact ⟨HBN.out h, HBN.out h⟩
  case g2 => simpa using HBL.out
  case g3 => exact holds_of_rd HB2.out
  case g4 =>
    intro j x hj
    match j, hj with
    | 0, hj => simp at hj; subst hj; simp [Addr.add]
  case g5 => intro x hx; simp at hx; subst hx; rfl
  case g6 => omega
  case g7 => unfold maxLen; omega
  case g8 => omega
  intro v1 w1 hown1 hgrow1
  have ho1 : w1.ownsRow (w.heap.size + 2) 5 1 v1 (blen + 1) ((bs ++ [(u : Int)]).map (Value.int .u8)) := by simpa using hown1
  have hbel1 := below_of_grown hgrow1 (B := w.heap.size + 2) (by simp) (fun k h => by cases h)
  have hc0 : w1.cell? ⟨w.heap.size, 0, none⟩ = some (.slice va vlen vcap) := by
    rw [hbel1.cell (p := ⟨w.heap.size, 0, none⟩) (by show w.heap.size < w.heap.size + 2; omega), World.cell?_alloc_past (hn := by simp), World.cell?_alloc_at (hn := rfl)]
    rfl
  have HO1 : Hid (w1.ownsRow (w.heap.size + 2) 5 1 v1 (blen + 1) ((bs ++ [(u : Int)]).map (Value.int .u8))) := ho1
  have HL1 : Hid (Below w.heap.size w w1) := (box_world w va vlen vcap L u).trans (hbel1.mono (by omega))
  have hs1 : w.heap.size + 2 ≤ w1.heap.size := by have := hbel1.size; simpa using this
  clear hown1 hgrow1 ho1 hbel1 HB2
  obtain ⟨m, hmn, hmv, hmc⟩ : ∃ m : Nat, m ≤ n ∧ m ≤ vlen ∧ ((n ≤ vlen ∧ Hid (m = n)) ∨ (¬ n ≤ vlen ∧ Hid (m = vlen))) := by
    by_cases h : n ≤ vlen
    · exact ⟨n, Nat.le_refl _, h, .inl ⟨h, rfl⟩⟩
    · exact ⟨vlen, by omega, Nat.le_refl _, .inr ⟨h, rfl⟩⟩
  have HN1 : Hid (Rd w1 va vlen vs) := HV.out.below HL1.out
  rcases hmc with ⟨hm, HM⟩ | ⟨hm, HM⟩
  all_goals
    have hmi : n ≤ m ∨ vlen ≤ m := by have := HM.out; omega
    first
    | (have hm' : n ≤ vlen := hm
       go_wp2_with (at_builtin; (refine wpList_append_own_any _ rfl (.tmp 32) (.tmp 33) 22 rfl (w.heap.size + 2) 5 i0 (.int .u8 0) 1 1 Try.underlying22 hi hz0 hz1 hz2 rfl (by decide) v1 (blen + 1) _ rfl HO1.out va n vcap ((vs.take n).map (Value.int .u8)) rfl ?g1 ?g2 ?g3 ?g4 ?g5 ?g6 ?g7 ?_)))
    | (go_wp2_with (at_builtin; (refine wpList_append_own_any _ rfl (.tmp 32) (.tmp 33) 22 rfl (w.heap.size + 2) 5 i0 (.int .u8 0) 1 1 Try.underlying22 hi hz0 hz1 hz2 rfl (by decide) v1 (blen + 1) _ rfl HO1.out va vlen vcap ((vs.take vlen).map (Value.int .u8)) rfl ?g1 ?g2 ?g3 ?g4 ?g5 ?g6 ?g7 ?_)))
    case g1 => have := HVL.out; simp; omega
    case g2 => intro h; have := HVN.out h; omega
    case g3 => exact rd_news HN1.out (by omega)
    case g4 => exact ints_oneCell _ _
    case g5 => unfold maxLen; omega
    case g6 => omega
    case g7 => omega
    intro v2 w2 hown2 hgrow2
    have HO2 : Hid (w2.ownsRow (w.heap.size + 2) 5 1 v2 (blen + 1 + m) ((bs ++ [(u : Int)] ++ vs.take m).map (Value.int .u8))) := by
      unfold Hid; rw [HM.out]; simpa using hown2
    have hbel2 := below_of_grown hgrow2 (B := w.heap.size + 1) (by omega) (fun k h => by have := HO1.out.lt k h; omega)
    have HL2 : Hid (Below w.heap.size w w2) := HL1.out.trans (hbel2.mono (by omega))
    have hs2 : w.heap.size + 2 ≤ w2.heap.size := by have := hbel2.size; omega
    clear hown2 hgrow2 hbel2 HN1 HL1 HO1 hc0 hs1
    go_wp2_with fail
    go_loopw [1, 39] (fun b c wr => ∃ k : Nat, k ≤ n - m ∧ c = .int .i64 (k : Int) ∧ Hid (wr.ownsRow (w.heap.size + 2) 5 1 b (blen + 1 + m + k) ((bs ++ [(u : Int)] ++ vs.take m ++ List.replicate k 0).map (Value.int .u8))) ∧ Hid (Below w.heap.size w wr) ∧ w.heap.size + 2 ≤ wr.heap.size) (fun _ c _ => n - m - (intOf c).toNat)
    case atStart => exact ⟨0, Nat.zero_le _, rfl, by simpa using HO2, HL2, hs2⟩
    case round =>
      obtain ⟨k, hk, rfl, HOr, HLr, hsr⟩ := hrel
      by_cases hlt : k < n - m
      · first
        | (exfalso; omega)
        | (
          have hnv : vlen ≤ m ∧ ¬ n ≤ vlen := by omega
          go_wp2_with (at_builtin; (refine wpList_append_own _ rfl (.tmp 41) (.tmp 42) 22 rfl (w.heap.size + 2) 5 i0 (.int .u8 0) 1 1 Try.underlying22 hi hz0 hz1 hz2 rfl (by decide) _ (blen + 1 + m + k) _ rfl (HOr.out.alloc _) ⟨_, 0, none⟩ 1 1 [.int .u8 0] rfl rfl ?k1 ?k2 ?k3 ?k4 ?k5 ?_))
          case k1 =>
            intro j x hj
            match j, hj with
            | 0, hj => simp at hj; subst hj; simp [Addr.add]
          case k2 => intro x hx; simp at hx; subst hx; rfl
          case k3 => unfold maxLen; omega
          case k4 => omega
          case k5 => simp; omega
          intro v3 w3 hown3 hgrow3 _
          have HO3 : Hid (w3.ownsRow (w.heap.size + 2) 5 1 v3 (blen + 1 + m + (k + 1)) ((bs ++ [(u : Int)] ++ vs.take m ++ List.replicate (k + 1) 0).map (Value.int .u8))) := by
            unfold Hid; simpa [List.replicate_succ', ← Nat.add_assoc] using hown3
          have hbel3 := below_of_grown hgrow3 (B := w.heap.size + 2) (by simp; omega) (fun j h => by have := HOr.out.lt j h; omega)
          have HL3 : Hid (Below w.heap.size w w3) := (HLr.out.alloc (by omega) _).trans (hbel3.mono (by omega))
          have hs3 : w.heap.size + 2 ≤ w3.heap.size := by have := hbel3.size; simp at this; omega
          clear hown3 hgrow3 hbel3 HOr HLr
          go_wp2_with fail
          go_roundw
          case rel => exact ⟨k + 1, by omega, by go_num, HO3, HL3, hs3⟩
          case measure => simp [intOf]; omega)
      · obtain rfl : k = n - m := by omega
        obtain ⟨g, cap, rfl, hg1, hg2, hg3⟩ := ownsRow_shape HOr.out (by omega)
        have hN : blen + 1 + m + (n - m) = blen + 1 + n := by omega
        rw [hN] at HOr hg3 ⊢
        have hfz := HOr.out.frozenAt (blen + n)
        have hz := last_at bs vs u n m blen HBL.out hn1 hmn (by rw [HVL.out]; exact hmv) (by rw [HVL.out]; exact hmi)
        have hcl : wr.cell? ⟨g, blen + n, none⟩ = some (.int .u8 ((body vs n).getD (n - 1) 0)) := by rw [HOr.out.cellAt _ (by omega), List.getElem?_map, hz]; rfl
        have hst := (HOr.out.stored (blen + n) (.int .u8 (clr ((body vs n).getD (n - 1) 0) u))).1
        rw [← List.map_set, set_at bs vs u n m blen HBL.out hn1 hmn (by rw [HVL.out]; exact hmv) (by rw [HVL.out]; exact hmi)] at hst
        have HST : Hid _ := hst
        have HBE := HLr.out.setCell (p := ⟨g, blen + n, none⟩) (by show w.heap.size ≤ g; omega) (.int .u8 (clr ((body vs n).getD (n - 1) 0) u))
        have HBF : Hid _ := HBE
        clear hz hst HBE
        generalize (body vs n).getD (n - 1) 0 = z at *
        go_wp2_with fail
        go_ret
        exact ⟨_, rfl, ownsRow_base HST.out (by omega), HBF.out⟩
#print axioms app_pos
end Go.Proofs.Qxb6608795a

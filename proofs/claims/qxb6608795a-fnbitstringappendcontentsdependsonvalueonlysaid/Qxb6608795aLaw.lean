import Derived.WalkKit
import Derived.ArgAppend
import Derived.Test.Qxb6608795aClone
namespace Go.Proofs.Qxb6608795a
open Go.RowKit

/-- 'append(out, xs...)', out the call's own, it may grow, xs nil or not. -/
theorem wpList_append_own_any {P : Program} (w : World) {ops : Array Oper} {rest : List Oper} {o : Oper} {a : Act} {Q : Exit → Act → World → Prop} (hgd : o.guard = none) (s x : Operand) (t : TypeId)
    (ho : o.op = .call { callee := .builtin .append, args := #[s, x], argTypes := #[t, t] })
    (base : Nat) (e : TypeId) (i : TypeInfo) (z : Value) (size bytes : Nat) (ht : P.underlying t = some (.slice e)) (hi : P.info? e = some i) (hz : i.zero = some z)
    (hsize : i.size = size) (hby : i.bytes = bytes) (hzs : z.cells.size = size) (hsz : 0 < size)
    (v : Value) (n : Nat) (xs : List Value) (hs : a.eval s = v) (hown : w.ownsRow base e size v n xs)
    (ao : Option Addr) (m c : Nat) (news : List Value) (hx : a.eval x = .slice ao m c) (hl : news.length = m * size) (hnone : ao = none → m = 0 ∧ c = 0)
    (hnews : ∀ ad, ao = some ad → ∀ j u, news[j]? = some u → w.cell? (ad.add j) = some u) (h1 : ∀ u ∈ news, u.oneCell' = true)
    (h63 : n + m ≤ maxLen) (hbytes : (n + m) * bytes ≤ 140737488355328) (hbase : base ≤ w.heap.size)
    (h : ∀ v' w', w'.ownsRow base e size v' (n + m) (xs ++ news) → w.grownBy w' v.ownBlock → wpList P ops Q rest (a.put o.dst v') w') : wpList P ops Q (o :: rest) a w := by
  cases ao with
  | some ad =>
    exact wpList_append_own w hgd s x t ho base e i z size bytes ht hi hz hsize hby hzs hsz v n xs hs hown ad m c news hx hl (hnews ad rfl) h1 h63 hbytes hbase (fun v' w' h1 h2 _ => h v' w' h1 h2)
  | none =>
    obtain ⟨rfl, rfl⟩ := hnone rfl
    have hn : news = [] := List.eq_nil_of_length_eq_zero (by simpa using hl)
    subst hn
    refine wpList_plain hgd fun K hK => ?_
    have hrun := run_append_owned_none (P := P) (w := w) base t o.type e i size ht hi v n xs hown
    unfold Oper.wp
    simp [execOp, ho, resolve, invoke, builtin, hs, hx, hrun, Result.andThen]
    exact hK _ _ (h v w (by simpa using hown) (World.grownBy.refl _ _))

theorem ownsRow_base {w : World} {base base' : Nat} {e : TypeId} {size : Nat} {v : Value} {n : Nat} {xs : List Value} (h : w.ownsRow base e size v n xs) (hb : base' ≤ base) : w.ownsRow base' e size v n xs := by
  refine ⟨h.1, ?_⟩
  rcases h.2 with h' | ⟨g, cap, cur, hv, hg, r⟩
  · exact .inl h'
  · exact .inr ⟨g, cap, cur, hv, Nat.le_trans hb hg, r⟩

/-- The value of an owned row of a known positive length. -/
theorem ownsRow_shape {w : World} {base : Nat} {e : TypeId} {size : Nat} {v : Value} {n : Nat} {xs : List Value} (h : w.ownsRow base e size v n xs) (hn : 0 < n) : ∃ g cap, v = .slice (some ⟨g, 0, none⟩) n cap ∧ base ≤ g ∧ g < w.heap.size ∧ n ≤ cap := by
  rcases h.2 with ⟨_, h'⟩ | ⟨g, cap, cur, hv, hg, hh, hnc, _⟩
  · omega
  · exact ⟨g, cap, hv, hg, (Array.getElem?_eq_some_iff.1 hh).1, hnc⟩

/-- An owned row of numbers, read. -/
theorem rd_of_owns {w : World} {base g n cap : Nat} {ys : List Int} (h : w.ownsRow base 5 1 (.slice (some ⟨g, 0, none⟩) n cap) n (ys.map (Value.int .u8))) (hg : g < w.heap.size) : Rd w (some ⟨g, 0, none⟩) n ys := by
  have hl : ys.length = n := by simpa using h.1
  refine ⟨hl, fun i hi => ⟨g, 0, rfl, hg, ?_⟩⟩
  rw [Nat.zero_add, h.cellAt i (by omega), List.getElem?_map]
  simp [List.getD_eq_getElem?_getD, List.getElem?_eq_getElem (show i < ys.length by omega)]

theorem rd_news {w : World} {a : Option Addr} {len m : Nat} {xs : List Int} (h : Rd w a len xs) (hm : m ≤ len) : ∀ ad, a = some ad → ∀ j u, ((xs.take m).map (Value.int .u8))[j]? = some u → w.cell? (ad.add j) = some u := by
  intro ad had j u hj
  have hlen := h.1
  have hjl : j < m := by
    have := (List.getElem?_eq_some_iff.1 hj).1
    simp at this; omega
  obtain ⟨b, off, e, _, hc⟩ := h.2 j (by omega)
  rw [had] at e
  simp only [Option.some.injEq] at e
  subst e
  rw [Addr.add_lit, hc]
  simp [List.getElem?_map, hjl, List.getElem?_eq_getElem (show j < xs.length by omega)] at hj
  simp [List.getD_eq_getElem?_getD, List.getElem?_eq_getElem (show j < xs.length by omega), hj]

theorem below_of_grown {w w' : World} {row : Option Nat} (h : w.grownBy w' row) {B : Nat} (hB : B ≤ w.heap.size) (hr : ∀ k, row = some k → B ≤ k) : Below B w w' :=
  (Below.refl B w).grown h hB hr

#print axioms wpList_append_own_any
end Go.Proofs.Qxb6608795a

import Derived.Test.YbulkahlaBound
import Derived.Deep.RegionLaw
namespace Go.Proofs.Ybulkahla
open Go.RowKit

/-- append on a row of the call's own, as one step of a region that draws its order. -/
theorem step_append_own {P : Program} {ops : Array Oper} {o : Oper} {a : Act} {w : World} {K : Act → World → Prop} {Q : Exit → Act → World → Prop} {E : Prop}
    (hg : o.guard = none) (s x : Operand) (t : TypeId) (hop : o.op = Op.call { callee := Callee.builtin Builtin.append, args := #[s, x], argTypes := #[t, t] })
    (base : Nat) (e : TypeId) (i : TypeInfo) (z : Value) (size bytes : Nat) (ht : P.underlying t = some (.slice e)) (hi : P.info? e = some i) (hz : i.zero = some z)
    (hsize : i.size = size) (hby : i.bytes = bytes) (hzs : z.cells.size = size) (hsz : 0 < size)
    (v : Value) (n : Nat) (xs : List Value) (hs : a.eval s = v) (hown : w.ownsRow base e size v n xs)
    (ad : Addr) (m c : Nat) (news : List Value) (hx : a.eval x = .slice (some ad) m c) (hl : news.length = m * size) (hnews : ∀ j u, news[j]? = some u → w.cell? (ad.add j) = some u) (h1 : ∀ u ∈ news, u.oneCell' = true)
    (h63 : n + m ≤ maxLen) (hbytes : (n + m) * bytes ≤ 140737488355328) (hbase : base ≤ w.heap.size)
    (hK : ∀ v' w', w'.ownsRow base e size v' (n + m) (xs ++ news) → w.grownBy w' v.ownBlock → (v' = .slice none 0 0 ↔ v = .slice none 0 0 ∧ m = 0) → K (a.put o.dst v') w') :
    if Region.wanted o (yielded ops a.tmps) = true then Oper.wp P o a w K Q else E := by
  have hw : Region.wanted o (yielded ops a.tmps) = true := by simp [Region.wanted, hg]
  rw [if_pos hw]
  exact wp_append_own w s x t hop base e i z size bytes ht hi hz hsize hby hzs hsz v n xs hs hown ad m c news hx hl hnews h1 h63 hbytes hbase hK

/-- a call of a Go function by its contract, as one step of a region that draws its order. -/
theorem step_call {P : Program} {ops : Array Oper} {o : Oper} {a : Act} {w : World} {K : Act → World → Prop} {Q : Exit → Act → World → Prop} {E : Prop}
    (hg : o.guard = none) (f : FuncId) (xs : Array Operand) (ts : Array TypeId) (hop : o.op = Op.call { callee := .value (.func f), args := xs, argTypes := ts })
    (vals : Array Value) (hv : xs.map a.eval = vals) (he : ∀ w, (callFunc f vals).run P w = .ok (.enter f vals) w)
    {R : Ending → World → Prop} (hc : Calls P f vals w R) (hK : ∀ e w', R e w' → ∃ v, e = .returned v ∧ K (a.put o.dst v) w') :
    if Region.wanted o (yielded ops a.tmps) = true then Oper.wp P o a w K Q else E := by
  have hw : Region.wanted o (yielded ops a.tmps) = true := by simp [Region.wanted, hg]
  rw [if_pos hw]
  obtain ⟨dst, op, type, pos, after, guard⟩ := o
  simp only at hop
  subst hop
  have e1 : execOp a.eval { dst := dst, op := Op.call { callee := .value (.func f), args := xs, argTypes := ts }, type := type, pos := pos, after := after, guard := guard } = callFunc f vals := by
    rw [← hv]
    show callFunc f (#[] ++ xs.map a.eval ++ #[]) = _
    simp
  unfold Oper.wp
  rw [e1, he]
  show Calls P f vals w _
  refine hc.mono ?_
  intro e w' hR
  obtain ⟨v, rfl, hk⟩ := hK e w' hR
  exact hk
end Go.Proofs.Ybulkahla

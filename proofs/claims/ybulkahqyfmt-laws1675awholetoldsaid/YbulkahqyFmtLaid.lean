import Derived.Test.YbulkahqyFmtRows
import Derived.Test.YbulkahqyFmtStep
import Derived.ProofKit
import Derived.LaidMore
import Derived.OpenShut
import Derived.Stop.Joined
namespace Go.Proofs.YbulkahqyFmt
open Go.ChangeShapes Go.WideShapes Go.ChangeAt Go.RowKit

theorem gLeg : Ybaf.prog.globalNamed (Rows.lawS1675AWholeSpec.vars.getD 2 "") = some 2 := by kernel_rfl
theorem tLeg : (Ybaf.prog.globals[2]?).map (·.type) = some 74 := by kernel_rfl

set_option maxRecDepth 100000 in
theorem door_met (os : Os) (args : Array Value) : laidMetH Ybaf.prog Rows.lawS1675AWholeRow.laid ((World.doorLaid Ybaf.prog 400 os).forCall (fun _ _ => 0) ⟨#[], args, []⟩).memory :=
  laidMetH_of_parts3 (fuel := 8) (laidMet_of_run' 8 (by kernel_rfl) (by kernel_rfl)) (by kernel_rfl) (by kernel_rfl)

theorem cells73 : Ybaf.prog.cellsOf 73 = 5 := by kernel_rfl
theorem cells74 : Ybaf.prog.cellsOf 74 = 15 := by kernel_rfl
theorem cells9 : Ybaf.prog.cellsOf 9 = 1 := by kernel_rfl
theorem cells3 : Ybaf.prog.cellsOf 3 = 1 := by kernel_rfl

theorem vec_of {W : World} {base m : Nat} {sp : Nat → Bool} {held : Bool} {cs : List Value} {a b c d : Int} {s : List UInt8} {pl : List MemPlace}
    (h : DataW.trod (fun _ => ()) Ybaf.prog W base sp held m 73 cs = some (.agg [.lit (.string s), .lit (.int .i64 a), .lit (.int .i64 b), .lit (.int .i64 c), .lit (.int .i64 d)], pl)) : ∃ t, cs = [.string t, .int .i64 a, .int .i64 b, .int .i64 c, .int .i64 d] := by
  obtain ⟨xs, k, _, hxy, hcl, hxl, hf⟩ := DataW.trod_struct Ybaf.underlying73 h
  rw [cells73] at hcl
  match xs, hxl, cs, hcl with
  | [y0, y1, y2, y3, y4], _, [v0, v1, v2, v3, v4], _ =>
    have g0 := hf 0 _ rfl
    have g1 := hf 1 _ rfl
    have g2 := hf 2 _ rfl
    have g3 := hf 3 _ rfl
    have g4 := hf 4 _ rfl
    simp [cells9, cells3] at g0 g1 g2 g3 g4
    obtain ⟨t, e0, _⟩ := DataW.trod_string Ybaf.underlying9 g0
    obtain ⟨n1, e1, z1, _⟩ := DataW.trod_int Ybaf.underlying3 g1
    obtain ⟨n2, e2, z2, _⟩ := DataW.trod_int Ybaf.underlying3 g2
    obtain ⟨n3, e3, z3, _⟩ := DataW.trod_int Ybaf.underlying3 g3
    obtain ⟨n4, e4, z4, _⟩ := DataW.trod_int Ybaf.underlying3 g4
    simp only [List.cons.injEq, and_true] at e0 e1 e2 e3 e4
    subst e0 e1 e2 e3 e4 z1 z2 z3 z4
    simp only [Prod.mk.injEq, DataW.agg.injEq, List.map_cons, List.map_nil, List.cons.injEq, DataW.lit.injEq, Lit.int.injEq, true_and, and_true] at hxy
    obtain ⟨⟨_, rfl, rfl, rfl, rfl⟩, _⟩ := hxy
    exact ⟨t, rfl⟩

set_option maxRecDepth 100000 in
theorem of_laid {W : World} (h : laidMetH Ybaf.prog Rows.lawS1675AWholeRow.laid W) : ∃ t0 t1 t2, Leg W 2 t0 t1 t2 := by
  rw [MakeChecks.laidMetH_plain _ _ _ (by kernel_rfl)] at h
  obtain ⟨ps, ⟨g0, t0, cs0, f0, p0, q0, hg0, ht0, hv0, hd0, ⟨g1, t1, cs1, f1, p1, q1, hg1, ht1, hv1, hd1, ⟨g2, t2, cs2, f2, p2, q2, hg2, ht2, hv2, hd2, _, _⟩, _⟩, _⟩, _, _⟩ := h
  clear hg0 ht0 hv0 hd0 hg1 ht1 hv1 hd1
  obtain rfl := Option.some.inj (gLeg.symm.trans hg2)
  obtain rfl := Option.some.inj (tLeg.symm.trans ht2)
  obtain ⟨xs, m1, _, hx1, hlen, hn3, hel⟩ := DataW.trod_array Ybaf.underlying74 hd2
  rw [cells74] at hlen
  rw [cells73] at hel
  simp only [Prod.mk.injEq, Rows.laid_example_com_veilroute_veilroute_pkg_clienthello_legacyFields, DataW.agg.injEq] at hx1
  match xs, hn3, hx1, hel 0 (by decide), hel 1 (by decide), hel 2 (by decide) with
  | [x0, x1, x2], _, hx1, h0, h1, h2 =>
    simp only [List.map_cons, List.map_nil, List.cons.injEq, and_true] at hx1
    obtain ⟨⟨e0, e1, e2⟩, _⟩ := hx1
    obtain ⟨y0, z0⟩ := x0
    obtain ⟨y1, z1⟩ := x1
    obtain ⟨y2, z2⟩ := x2
    simp only at e0 e1 e2
    subst e0 e1 e2
    obtain ⟨u0, k0⟩ := vec_of h0
    obtain ⟨u1, k1⟩ := vec_of h1
    obtain ⟨u2, k2⟩ := vec_of h2
    have hc : ∀ j, j < 15 → W.cell? ⟨2, j, none⟩ = cs2.toList[j]? := fun j hj => by
      have := World.var?_cell hg2 hv2 j
      rw [this]; simp
    have q : ∀ i j, i < 3 → j < 5 → cs2.toList[i * 5 + j]? = (List.take 5 (List.drop (i * 5) cs2.toList))[j]? := fun i j hi hj => by
      rw [List.getElem?_take_of_lt hj, List.getElem?_drop]
    have r0 : ∀ j, j < 5 → W.cell? ⟨2, j, none⟩ = [Value.string u0, .int .i64 1, .int .i64 0, .int .i64 32, .int .i64 1][j]? := fun j hj => by
      rw [hc j (by omega), ← k0]; have := q 0 j (by omega) hj; simpa using this
    have r1 : ∀ j, j < 5 → W.cell? ⟨2, 5 + j, none⟩ = [Value.string u1, .int .i64 2, .int .i64 2, .int .i64 65534, .int .i64 2][j]? := fun j hj => by
      rw [hc (5 + j) (by omega), ← k1]; exact q 1 j (by omega) hj
    have r2 : ∀ j, j < 5 → W.cell? ⟨2, 10 + j, none⟩ = [Value.string u2, .int .i64 1, .int .i64 1, .int .i64 255, .int .i64 1][j]? := fun j hj => by
      rw [hc (10 + j) (by omega), ← k2]; exact q 2 j (by omega) hj
    exact ⟨u0, u1, u2, r0 0 (by omega), r0 1 (by omega), r0 2 (by omega), r0 3 (by omega), r0 4 (by omega), r1 0 (by omega), r1 1 (by omega), r1 2 (by omega), r1 3 (by omega), r1 4 (by omega), r2 0 (by omega), r2 1 (by omega), r2 2 (by omega), r2 3 (by omega), r2 4 (by omega)⟩
end Go.Proofs.YbulkahqyFmt

import Derived.Test.YbulkahlaOpen
import Derived.Test.YbulkahlaBuild
namespace Go.Proofs.Ybulkahla
open Go.RowKit Go.Deep

section
variable {H : Type} {enc : TypeId × Value → H} {P : Program} {w : World} {base : Nat} {spare : Nat → Bool} {held : Bool}

theorem u8_bounds {n : Int} (h : (Lit.int .u8 n).wf = true) : 0 ≤ n ∧ n ≤ 255 := by
  simp [Lit.wf, IntKind.min, IntKind.max, IntKind.bits, IntKind.signed] at h
  omega

theorem open_gins {t e : TypeId} {fuel : Nat} {a : Option Addr} {len cap : Nat} {x : DataW H × List MemPlace} {f0 f1 f2 f3 f4 : Field} (ht : P.underlying t = some (.slice e)) (he : P.underlying e = some (.struct #[f0, f1, f2, f3, f4]))
    (ce : P.cellsOf e = 5) (o0 : f0.offset = 0) (o1 : f1.offset = 1) (o2 : f2.offset = 2) (o3 : f3.offset = 3) (o4 : f4.offset = 4)
    (u0 : P.underlying f0.type = some (.float .f64)) (u1 : P.underlying f1.type = some (.float .f64)) (u2 : P.underlying f2.type = some (.float .f64)) (u3 : P.underlying f3.type = some (.int .u8)) (u4 : P.underlying f4.type = some (.int .i64))
    (c0 : P.cellsOf f0.type = 1) (c1 : P.cellsOf f1.type = 1) (c2 : P.cellsOf f2.type = 1) (c3 : P.cellsOf f3.type = 1) (c4 : P.cellsOf f4.type = 1)
    (h : DataW.trod enc P w base spare held fuel t [.slice a len cap] = some x) : ∃ l : List Gin, l.length = len ∧ GinAt w a l := by
  rcases open_slice ht h with ⟨h0, _⟩ | ⟨a', len', cap', m, n, D, Pl, hcs, hb, hl, hm, hmm, rfl, hx⟩
  · simp only [List.cons.injEq, Value.slice.injEq, and_true] at h0
    obtain ⟨rfl, rfl, rfl⟩ := h0
    exact ⟨[], rfl, fun i s h => by simp at h⟩
  · simp only [List.cons.injEq, Value.slice.injEq, and_true] at hcs
    obtain ⟨rfl, rfl, rfl⟩ := hcs
    have hlm : len ≤ m := by rw [hmm]; split <;> omega
    have each : ∀ i, i < len → ∃ s : Gin, (w.cell? (a'.add (i * 5)) = some (.float .f64 s.1) ∧ w.cell? (a'.add (i * 5 + 1)) = some (.float .f64 s.2.1) ∧
        w.cell? (a'.add (i * 5 + 2)) = some (.float .f64 s.2.2.1) ∧ w.cell? (a'.add (i * 5 + 3)) = some (.int .u8 s.2.2.2.1) ∧ w.cell? (a'.add (i * 5 + 4)) = some (.int .i64 s.2.2.2.2) ∧ 0 ≤ s.2.2.2.1 ∧ s.2.2.2.1 ≤ 255) := by
      intro i hi
      obtain ⟨cs', h1, h2⟩ := hx i (by omega)
      rw [ce] at h1
      obtain ⟨_, hlen, hcell⟩ := World.cells?_some h1
      obtain ⟨xs, k, hk, hxy, _, hxl, hf⟩ := DataW.trod_struct he h2
      match xs, hxl, cs', hlen with
      | [y0, y1, y2, y3, y4], _, [v0, v1, v2, v3, v4], _ =>
        have g0 := hf 0 f0 rfl
        have g1 := hf 1 f1 rfl
        have g2 := hf 2 f2 rfl
        have g3 := hf 3 f3 rfl
        have g4 := hf 4 f4 rfl
        simp [o0, o1, o2, o3, o4, c0, c1, c2, c3, c4] at g0 g1 g2 g3 g4
        obtain ⟨n0, e0, _⟩ := trod_float u0 g0
        obtain ⟨n1, e1, _⟩ := trod_float u1 g1
        obtain ⟨n2, e2, _⟩ := trod_float u2 g2
        obtain ⟨n3, e3, _, wf3⟩ := DataW.trod_int u3 g3
        obtain ⟨n4, e4, _⟩ := DataW.trod_int u4 g4
        simp only [List.cons.injEq, and_true] at e0 e1 e2 e3 e4
        subst e0 e1 e2 e3 e4
        have k0 := hcell 0 (by omega)
        have k1 := hcell 1 (by omega)
        have k2 := hcell 2 (by omega)
        have k3 := hcell 3 (by omega)
        have k4 := hcell 4 (by omega)
        rw [add_add] at k0 k1 k2 k3 k4
        exact ⟨(n0, n1, n2, n3, n4), by simpa using k0, by simpa using k1, by simpa using k2, by simpa using k3, by simpa using k4, u8_bounds wf3⟩
    obtain ⟨f, hf⟩ := choose_lt (α := Gin) each
    refine ⟨(List.range len).map f, by simp, fun i s hs => ?_⟩
    have hi : i < len := by
      have := (List.getElem?_eq_some_iff.1 hs).1
      simpa using this
    have hs' : s = f i := by
      rw [List.getElem?_map, List.getElem?_range hi] at hs
      simpa using hs.symm
    subst hs'
    have h1 := hf i hi
    have hpl : a' = ⟨a'.block, a'.off, none⟩ := by
      have h0 := (hf 0 (by omega)).1
      simp [Addr.add] at h0
      exact cell?_plain h0
    have hlt := World.block_lt_of_cell? w _ h1.1
    rw [hpl] at h1 hlt
    simp only [add_of_plain] at h1 hlt
    exact ⟨a'.block, a'.off, by rw [← hpl], hlt, by simpa [Nat.add_assoc] using h1⟩
end
end Go.Proofs.Ybulkahla

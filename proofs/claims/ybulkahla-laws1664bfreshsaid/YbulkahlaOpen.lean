import Derived.Test.YbulkahlaSamples
import Derived.Deep.Slices
namespace Go.Proofs.Ybulkahla
open Go.RowKit Go.Deep

theorem cell?_plain {w : World} {x : Addr} {v : Value} (h : w.cell? x = some v) : x = ⟨x.block, x.off, none⟩ := by
  cases x with
  | mk b o s =>
    cases s with
    | none => rfl
    | some s =>
      simp only [World.cell?] at h
      split at h <;> simp at h

theorem add_of_plain (b o n : Nat) : (⟨b, o, none⟩ : Addr).add n = ⟨b, o + n, none⟩ := by
  unfold Addr.add; split <;> simp_all

section
variable {H : Type} {enc : TypeId × Value → H} {P : Program} {w : World} {base : Nat} {spare : Nat → Bool} {held : Bool}

theorem trod_float {t : TypeId} {fuel : Nat} {cs : List Value} {x : DataW H × List MemPlace} {k : FloatKind} (ht : P.underlying t = some (.float k)) (h : DataW.trod enc P w base spare held fuel t cs = some x) :
    ∃ n, cs = [.float k n] ∧ x = (.lit (.float k n), []) ∧ (Lit.float k n).wf = true := by
  cases fuel with
  | zero => simp [DataW.trod] at h
  | succ n =>
    unfold DataW.trod at h
    rw [ht] at h
    split at h <;> simp_all

theorem open_smps {t e : TypeId} {fuel : Nat} {a : Option Addr} {len cap : Nat} {x : DataW H × List MemPlace} {f0 f1 f2 f3 : Field} (ht : P.underlying t = some (.slice e)) (he : P.underlying e = some (.struct #[f0, f1, f2, f3]))
    (ce : P.cellsOf e = 4) (o0 : f0.offset = 0) (o1 : f1.offset = 1) (o2 : f2.offset = 2) (o3 : f3.offset = 3)
    (u0 : P.underlying f0.type = some (.float .f64)) (u1 : P.underlying f1.type = some (.float .f64)) (u2 : P.underlying f2.type = some (.float .f64)) (u3 : P.underlying f3.type = some (.int .i64))
    (c0 : P.cellsOf f0.type = 1) (c1 : P.cellsOf f1.type = 1) (c2 : P.cellsOf f2.type = 1) (c3 : P.cellsOf f3.type = 1)
    (h : DataW.trod enc P w base spare held fuel t [.slice a len cap] = some x) : ∃ l : List Smp, l.length = len ∧ SmpsAt w a l := by
  rcases open_slice ht h with ⟨h0, _⟩ | ⟨a', len', cap', m, n, D, Pl, hcs, hb, hl, hm, hmm, rfl, hx⟩
  · simp only [List.cons.injEq, Value.slice.injEq, and_true] at h0
    obtain ⟨rfl, rfl, rfl⟩ := h0
    exact ⟨[], rfl, fun i s h => by simp at h⟩
  · simp only [List.cons.injEq, Value.slice.injEq, and_true] at hcs
    obtain ⟨rfl, rfl, rfl⟩ := hcs
    have hlm : len ≤ m := by rw [hmm]; split <;> omega
    have each : ∀ i, i < len → ∃ s : Smp, (w.cell? (a'.add (i * 4)) = some (.float .f64 s.1) ∧ w.cell? (a'.add (i * 4 + 1)) = some (.float .f64 s.2.1) ∧
        w.cell? (a'.add (i * 4 + 2)) = some (.float .f64 s.2.2.1) ∧ w.cell? (a'.add (i * 4 + 3)) = some (.int .i64 s.2.2.2)) := by
      intro i hi
      obtain ⟨cs', h1, h2⟩ := hx i (by omega)
      rw [ce] at h1
      obtain ⟨_, hlen, hcell⟩ := World.cells?_some h1
      obtain ⟨xs, k, hk, hxy, _, hxl, hf⟩ := DataW.trod_struct he h2
      match xs, hxl, cs', hlen with
      | [y0, y1, y2, y3], _, [v0, v1, v2, v3], _ =>
        have g0 := hf 0 f0 rfl
        have g1 := hf 1 f1 rfl
        have g2 := hf 2 f2 rfl
        have g3 := hf 3 f3 rfl
        simp [o0, o1, o2, o3, c0, c1, c2, c3] at g0 g1 g2 g3
        obtain ⟨n0, e0, _⟩ := trod_float u0 g0
        obtain ⟨n1, e1, _⟩ := trod_float u1 g1
        obtain ⟨n2, e2, _⟩ := trod_float u2 g2
        obtain ⟨n3, e3, _⟩ := DataW.trod_int u3 g3
        simp only [List.cons.injEq, and_true] at e0 e1 e2 e3
        subst e0 e1 e2 e3
        have k0 := hcell 0 (by omega)
        have k1 := hcell 1 (by omega)
        have k2 := hcell 2 (by omega)
        have k3 := hcell 3 (by omega)
        rw [add_add] at k0 k1 k2 k3
        exact ⟨(n0, n1, n2, n3), by simpa using k0, by simpa using k1, by simpa using k2, by simpa using k3⟩
    obtain ⟨f, hf⟩ := choose_lt (α := Smp) each
    refine ⟨(List.range len).map f, by simp, fun i s hs => ?_⟩
    have hi : i < len := by
      have := (List.getElem?_eq_some_iff.1 hs).1
      simpa using this
    have hs' : s = f i := by
      rw [List.getElem?_map, List.getElem?_range hi] at hs
      simpa using hs.symm
    subst hs'
    have h1 := hf i hi
    have hp := cell?_plain h1.1
    have hpl : a' = ⟨a'.block, a'.off, none⟩ := by
      have h0 := (hf 0 (by omega)).1
      simp [Addr.add] at h0
      exact cell?_plain h0
    have hlt := World.block_lt_of_cell? w _ h1.1
    rw [hpl] at h1 hlt
    simp only [add_of_plain] at h1 hlt
    exact ⟨a'.block, a'.off, by rw [← hpl], hlt, by simpa [Nat.add_assoc] using h1⟩
end
end Go.Proofs.Ybulkahla

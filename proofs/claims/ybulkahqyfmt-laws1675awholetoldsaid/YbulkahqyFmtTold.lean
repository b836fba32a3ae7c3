import Derived.Test.YbulkahqyFmtWhole
import Derived.Test.YbulkahqyFmtLaid
import Derived.Test.YbulkahqyFmtTie
import Derived.Test.YbulkahqyFmtCards
import Derived.Deep.Slices
import Derived.Stop.JoinedTold
import Derived.Stop.JoinedAt
import Derived.Deep.DeepWitnessRef
import Derived.OpenVars
import Derived.ShutString
import Derived.SevenTiedAt
namespace Go.Proofs.YbulkahqyFmt
open Go.ChangeShapes Go.WideShapes Go.ChangeAt Go.RowKit Go.Deep
open Go.Extern.Stop Go.Stop Go.Extern
set_option linter.unusedVariables false

theorem cell?_plain {w : World} {x : Addr} {v : Value} (h : w.cell? x = some v) : x = ⟨x.block, x.off, none⟩ := by
  cases x with
  | mk b o s =>
    cases s with
    | none => rfl
    | some s =>
      simp only [World.cell?] at h
      split at h <;> simp at h

theorem u8_bounds {n : Int} (h : (Lit.int .u8 n).wf = true) : 0 ≤ n ∧ n ≤ 255 := by
  simp [Lit.wf, IntKind.min, IntKind.max, IntKind.bits, IntKind.signed] at h
  omega
theorem u16_bounds {n : Int} (h : (Lit.int .u16 n).wf = true) : 0 ≤ n ∧ n ≤ 65535 := by
  simp [Lit.wf, IntKind.min, IntKind.max, IntKind.bits, IntKind.signed] at h
  omega

theorem cells5 : Ybaf.prog.cellsOf 5 = 1 := by kernel_rfl

theorem open_bytes {H : Type} {enc : TypeId × Value → H} {w : World} {base : Nat} {spare : Nat → Bool} {held : Bool} {fuel : Nat} {a : Option Addr} {len cap : Nat} {x : DataW H × List MemPlace}
    (h : DataW.trod enc Ybaf.prog w base spare held fuel 22 [.slice a len cap] = some x) : ∃ l : List Int, l.length = len ∧ BytesAt w a l ∧ (a = none → len = 0 ∧ cap = 0) := by
  rcases open_slice Ybaf.underlying22 h with ⟨h0, _⟩ | ⟨a', len', cap', m, n, D, Pl, hcs, hb, hl, hm, hmm, rfl, hx⟩
  · simp only [List.cons.injEq, Value.slice.injEq, and_true] at h0
    obtain ⟨rfl, rfl, rfl⟩ := h0
    exact ⟨[], rfl, fun i s h => by simp at h, fun _ => ⟨rfl, rfl⟩⟩
  · simp only [List.cons.injEq, Value.slice.injEq, and_true] at hcs
    obtain ⟨rfl, rfl, rfl⟩ := hcs
    have hlm : len ≤ m := by rw [hmm]; split <;> omega
    have each : ∀ i, i < len → ∃ c : Int, w.cell? (a'.add (i * 1)) = some (.int .u8 c) ∧ 0 ≤ c ∧ c ≤ 255 := by
      intro i hi
      obtain ⟨cs', h1, h2⟩ := hx i (by omega)
      rw [cells5] at h1
      obtain ⟨_, hlen, hcell⟩ := World.cells?_some h1
      match cs', hlen with
      | [v0], _ =>
        obtain ⟨n0, e0, _, wf⟩ := DataW.trod_int Ybaf.underlying5 h2
        simp only [List.cons.injEq, and_true] at e0
        subst e0
        have k0 := hcell 0 (by omega)
        rw [add_add] at k0
        exact ⟨n0, by simpa using k0, u8_bounds wf⟩
    obtain ⟨f, hf⟩ := choose_lt (α := Int) each
    refine ⟨(List.range len).map f, by simp, fun i s hs => ?_, fun h => by cases h⟩
    have hi : i < len := by
      have := (List.getElem?_eq_some_iff.1 hs).1
      simpa using this
    have hs' : s = f i := by
      rw [List.getElem?_map, List.getElem?_range hi] at hs
      simpa using hs.symm
    subst hs'
    obtain ⟨h1, h2, h3⟩ := hf i hi
    have hpl : a' = ⟨a'.block, a'.off, none⟩ := by
      have h0 := (hf 0 (by omega)).1
      simp [Addr.add] at h0
      exact cell?_plain h0
    rw [hpl, add_plain] at h1
    exact ⟨a'.block, a'.off, by rw [← hpl], by simpa using h1, h2, h3⟩

theorem vars3 {H : Type} {enc : TypeId × Value → H} {P : Program} {w : World} {sp : Nat → Bool} {n1 n2 n3 : String} {gs : List (DataW H)} {ps : List MemPlace} (h : DataW.TrodVars enc P w sp [n1, n2, n3] gs ps) : ∃ a b c, gs = [a, b, c] := by
  match gs, h with
  | [], h => exact h.elim
  | [_], h =>
    obtain ⟨_, _, _, _, _, _, _, _, _, _, h', _⟩ := h
    exact h'.elim
  | [_, _], h =>
    obtain ⟨_, _, _, _, _, _, _, _, _, _, h', _⟩ := h
    obtain ⟨_, _, _, _, _, _, _, _, _, _, h'', _⟩ := h'
    exact h''.elim
  | [a, b, c], _ => exact ⟨a, b, c, rfl⟩
  | _ :: _ :: _ :: _ :: _, h =>
    obtain ⟨_, _, _, _, _, _, _, _, _, _, h', _⟩ := h
    obtain ⟨_, _, _, _, _, _, _, _, _, _, h'', _⟩ := h'
    obtain ⟨_, _, _, _, _, _, _, _, _, _, h3, _⟩ := h''
    exact h3.elim

theorem own : ownKnob Ybaf.prog.godebug = none := by kernel_rfl
theorem laidOut : laidOutB Ybaf.prog = true := by kernel_rfl

set_option maxRecDepth 100000 in
theorem lifted (os : Os) (started : os.Started) (H : Type) (enc : TypeId × Value → H) :
    ReturnsInTold none {} Ybaf.checked os 3 .any Input.okWide ((OpenSpec.ofChange Rows.lawS1675AWholeSpec).preRow enc Ybaf.prog Ybaf.f3 [] false Rows.lawS1675AWholeRow.laid) (fun F => ((OpenSpec.ofChange Rows.lawS1675AWholeSpec).at F).post enc Ybaf.prog Ybaf.f3 false true false false) (aloneAtReturn Ybaf.prog) nothingAlways := by
  refine returnsInTold_of_row (C := Ybaf.checked) (s := OpenSpec.ofChange Rows.lawS1675AWholeSpec) (by kernel_rfl) own started (by kernel_rfl) Ybaf.func3
    (OpenSpec.witness_stopped_atRef (enc := enc) (C := Ybaf.checked) false (World.doorLaid Ybaf.prog 400 os) #[.slice none 0 0, .slice none 0 0, .slice none 0 0, .int .u16 0] rfl (by kernel_rfl) (by kernel_rfl) (by kernel_rfl)
      (OpenSpec.preRow_of_B rfl 8 (by kernel_rfl) (by kernel_rfl) (door_met os _))) ?_
  intro F W base args ds gs before _ hF hval0 hW _ _ _ hL _
  have hval : ∀ (j : Nat) t v, Ybaf.f3.params[j]? = some t → args[j]? = some v → Value.okWide Ybaf.prog W .any base t v := hval0
  have hW' := hW
  obtain ⟨p, q, hA0, hV, rfl, hfz, hnd⟩ := hW
  have hA : DataW.TrodAll enc Ybaf.prog W 0 (fun _ => true) true Ybaf.f3.params.toList args.toList ds p := hA0
  rw [Ybaf.params3] at hA hval
  obtain ⟨v0, vs0, d0, ds0, p0, q0, hargs, rfl, rfl, h0, r0⟩ := trodAll_cons hA
  obtain ⟨v1, vs1, d1, ds1, p1, q1, rfl, rfl, rfl, h1, r1⟩ := trodAll_cons r0
  obtain ⟨v2, vs2, d2, ds2, p2, q2, rfl, rfl, rfl, h2, r2⟩ := trodAll_cons r1
  obtain ⟨v3, vs3, d3, ds3, p3, q3, rfl, rfl, rfl, h3, r3⟩ := trodAll_cons r2
  obtain ⟨rfl, rfl, rfl⟩ := trodAll_nil r3
  obtain rfl : args = #[v0, v1, v2, v3] := by cases args; simp_all
  obtain ⟨a0, n0, k0, rfl⟩ := okWide_slice Ybaf.underlying22 (hval 0 22 v0 rfl rfl)
  obtain ⟨a1, n1, k1, rfl⟩ := okWide_slice Ybaf.underlying22 (hval 1 22 v1 rfl rfl)
  obtain ⟨a2, n2, k2, rfl⟩ := okWide_slice Ybaf.underlying22 (hval 2 22 v2 rfl rfl)
  obtain ⟨c, rfl, rfl, rfl, wc⟩ := open_int Ybaf.underlying23 (hval 3 23 v3 rfl rfl) h3
  have j0 := h0
  have j1 := h1
  have j2 := h2
  have lt0 : ∀ x ∈ p0, x.block < W.heap.size := by obtain ⟨m, hm⟩ := j0; exact DataW.trod_lt m _ _ _ hm
  have lt1 : ∀ x ∈ p1, x.block < W.heap.size := by obtain ⟨m, hm⟩ := j1; exact DataW.trod_lt m _ _ _ hm
  have lt2 : ∀ x ∈ p2, x.block < W.heap.size := by obtain ⟨m, hm⟩ := j2; exact DataW.trod_lt m _ _ _ hm
  obtain ⟨l0, e0, b0, _⟩ := (fun ⟨m, hm⟩ => open_bytes hm : DataW.Trod enc Ybaf.prog W 0 (fun _ => true) true 22 (.slice a0 n0 k0) d0 p0 → _) h0
  obtain ⟨l1, e1, b1, _⟩ := (fun ⟨m, hm⟩ => open_bytes hm : DataW.Trod enc Ybaf.prog W 0 (fun _ => true) true 22 (.slice a1 n1 k1) d1 p1 → _) h1
  obtain ⟨l2, e2, b2, z2⟩ := (fun ⟨m, hm⟩ => open_bytes hm : DataW.Trod enc Ybaf.prog W 0 (fun _ => true) true 22 (.slice a2 n2 k2) d2 p2 → _) h2
  obtain ⟨t0, t1, t2, hleg⟩ := of_laid hL
  obtain ⟨wc1, wc2⟩ := u16_bounds wc
  clear hA0 hval0
  refine (whole_any a0 a1 a2 n0 n1 n2 k0 k1 k2 l0 l1 l2 c W e0 e1 e2 b0 b1 b2 wc1 wc2 hleg z2).mono fun e W' ⟨he, bel⟩ => ?_
  subst he
  have hV' : DataW.TrodVars enc Ybaf.prog W (fun _ => true) Rows.lawS1675AWholeSpec.vars gs q := hV
  obtain ⟨g1, g2, g3, rfl⟩ := vars3 hV'
  exact ⟨_, rfl, _, _, _, [], _, _, hW', trodAll_mk1 (shut_bool Ybaf.underlying4 _),
    (trodAll_cons_mk (Below.trod laidOut (by kernel_rfl) (of_decide_eq_true (by kernel_rfl)) j0 bel lt0) (trodAll_cons_mk (Below.trod laidOut (by kernel_rfl) (of_decide_eq_true (by kernel_rfl)) j1 bel lt1) (trodAll_cons_mk (Below.trod laidOut (by kernel_rfl) (of_decide_eq_true (by kernel_rfl)) j2 bel lt2) (trodAll_cons_mk (shut_int Ybaf.underlying23 wc) trodAll_mk0)))),
    Below.trodVars laidOut bel (by kernel_rfl) hV', bel.frame _, fun h => by cases h⟩

theorem stops : Ybaf.pinned.checked.prog.stops = Rows.lawS1675AWholeRow.stops := by kernel_rfl
theorem stopKnobs : Ybaf.pinned.checked.prog.stopKnobs = [] := by kernel_rfl
theorem quiet (os : Os) : Stop.quiet Ybaf.pinned.checked.prog os := by
  intro k hk
  rw [stopKnobs] at hk
  cases hk

/-- THE STATEMENT: told and tied. -/
theorem proved : Rows.LawS1675AWholeToldSaid :=
  Claim7.holds_of_told_tied_any_at .later 3 Ybaf.f3 "fmt.errorf" [] [] _ _ _ _ _ (by kernel_rfl) rfl rfl rfl laidOut (by kernel_rfl) rfl ⟨rfl, rfl, rfl, rfl, rfl, rfl, rfl⟩ rfl rfl (by kernel_rfl) (by kernel_rfl) Ybaf.func3 (by kernel_rfl)
    (of_decide_eq_true (by kernel_rfl)) (of_decide_eq_true (by kernel_rfl)) stops.symm rfl stopKnobs.symm (by kernel_rfl)
    (by kernel_rfl) (by kernel_rfl) (by kernel_rfl) (by kernel_rfl) (by kernel_rfl) (by kernel_rfl) (by kernel_rfl) (by kernel_rfl) (by kernel_rfl) rfl (by kernel_rfl) rfl rfl
    rfl rfl
    rfl (by kernel_rfl) (by kernel_rfl) (by kernel_rfl) (by decide) (by kernel_rfl) lawS1675AWhole_row_tie
    (OpenClaim.moreEntering_of (by kernel_rfl) (by kernel_rfl) (by kernel_rfl) (by kernel_rfl) (by kernel_rfl) (by kernel_rfl) (by kernel_rfl) (by kernel_rfl) (by kernel_rfl) (by kernel_rfl))
    ⟨_, WideRow.started_initial, quiet _⟩
    (fun os started _ H enc _ => lifted os started H enc)
#print axioms proved
end Go.Proofs.YbulkahqyFmt

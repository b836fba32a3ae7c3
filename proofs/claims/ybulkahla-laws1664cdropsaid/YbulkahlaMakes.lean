import Derived.Test.YbulkahlaMem
import Derived.OrdersHeld
import Derived.Deep.OwnRows
namespace Go.Proofs.Ybulkahla
open Go.RowKit

/-! ### SEVERAL makeSlices OF ONE REGION THAT DRAWS ITS ORDER, in whatever order they come: each has a block of its own; which number it bears is left open. -/

def puts (a : Act) (D : List (Tmp × Value)) : Act := D.foldl (fun a x => a.put (some x.1) x.2) a
theorem puts_snoc (a : Act) (D : List (Tmp × Value)) (x : Tmp × Value) : puts a (D ++ [x]) = (puts a D).put (some x.1) x.2 := by simp [puts]

theorem puts_perm : ∀ {L L' : List (Tmp × Value)}, L.Perm L' → (L.map (·.1)).Nodup → ∀ a, puts a L = puts a L' := by
  intro L L' h
  induction h with
  | nil => intro _ a; rfl
  | cons x _ ih => intro hn a; simp only [List.map_cons, List.nodup_cons] at hn; exact ih hn.2 _
  | swap x y l =>
    intro hn a
    simp only [List.map_cons, List.nodup_cons, List.mem_cons, not_or] at hn
    show puts ((a.put (some y.1) y.2).put (some x.1) x.2) l = puts ((a.put (some x.1) x.2).put (some y.1) y.2) l
    rw [Act.put_comm a y.2 x.2 (fun d hd he => hn.1.1 ((Option.some.inj hd).trans (Option.some.inj he).symm))]
  | trans h1 _ ih1 ih2 => intro hn a; exact (ih1 hn a).trans (ih2 ((h1.map _).nodup_iff.1 hn) a)

theorem perm_lift {α β : Type} (f : α → β) {L M : List β} (h : L.Perm M) : ∀ D : List α, D.map f = L → ∃ D' : List α, D'.Perm D ∧ D'.map f = M := by
  induction h with
  | nil => intro D hD; exact ⟨D, .refl _, hD⟩
  | cons x _ ih =>
    intro D hD
    match D, hD with
    | y :: D, hD =>
      simp only [List.map_cons, List.cons.injEq] at hD
      obtain ⟨D', h1, h2⟩ := ih D hD.2
      exact ⟨y :: D', h1.cons _, by simp [h2, hD.1]⟩
  | swap x y l =>
    intro D hD
    match D, hD with
    | u :: v :: D, hD =>
      simp only [List.map_cons, List.cons.injEq] at hD
      exact ⟨v :: u :: D, .swap _ _ _, by simp [hD]⟩
  | trans _ _ ih1 ih2 =>
    intro D hD
    obtain ⟨D1, p1, m1⟩ := ih1 D hD
    obtain ⟨D2, p2, m2⟩ := ih2 D1 m1
    exact ⟨D2, p2.trans p1, m2⟩

/-- the blocks that have been made since w0 -/
structure Made (w0 : World) (obj : Nat → Obj) (D : List (Nat × Nat)) (w : World) : Prop where
  bel : Below w0.heap.size w0 w
  apart : (D.map (·.2)).Nodup
  at_ : ∀ x ∈ D, w0.heap.size ≤ x.2 ∧ w.heap[x.2]? = some (obj x.1)

theorem Made.perm {w0 w : World} {obj : Nat → Obj} {D D' : List (Nat × Nat)} (h : Made w0 obj D w) (p : D'.Perm D) : Made w0 obj D' w :=
  ⟨h.bel, (p.map _).nodup_iff.2 h.apart, fun x hx => h.at_ x (p.mem_iff.1 hx)⟩

theorem Made.step {w0 w : World} {obj : Nat → Obj} {D : List (Nat × Nat)} (h : Made w0 obj D w) (i : Nat) : Made w0 obj (D ++ [(i, w.heap.size)]) (w.alloc (obj i)) := by
  have hlt : ∀ x ∈ D, x.2 < w.heap.size := fun x hx => (Array.getElem?_eq_some_iff.1 (h.at_ x hx).2).1
  refine ⟨h.bel.alloc h.bel.size _, ?_, fun x hx => ?_⟩
  · rw [List.map_append, List.nodup_append]
    refine ⟨h.apart, by simp, fun y hy z hz => ?_⟩
    obtain ⟨x, hx, rfl⟩ := List.mem_map.1 hy
    simp at hz
    have := hlt x hx
    omega
  · rcases List.mem_append.1 hx with hx | hx
    · exact ⟨(h.at_ x hx).1, by rw [Below.heap_alloc _ _ _ (hlt x hx)]; exact (h.at_ x hx).2⟩
    · simp at hx
      subst hx
      exact ⟨h.bel.size, heap_alloc_new w _⟩

def listAll (listed : Array Bool) (M : List Nat) : Array Bool := M.foldl (fun l i => l.setIfInBounds i true) listed

theorem listAll_size (M : List Nat) : ∀ listed : Array Bool, (listAll listed M).size = listed.size := by
  induction M with
  | nil => intro l; rfl
  | cons x M ih => intro l; show (listAll (l.setIfInBounds x true) M).size = _; rw [ih]; simp
theorem listAll_get (M : List Nat) : ∀ (listed : Array Bool) (j : Nat), (listAll listed M)[j]? = if j ∈ M ∧ j < listed.size then some true else listed[j]? := by
  induction M with
  | nil => intro l j; simp [listAll]
  | cons x M ih =>
    intro l j
    show (listAll (l.setIfInBounds x true) M)[j]? = _
    rw [ih]
    simp only [Array.size_setIfInBounds, List.mem_cons, Array.getElem?_setIfInBounds]
    by_cases h1 : j < l.size <;> by_cases h2 : j ∈ M <;> by_cases h3 : x = j <;> simp_all
    all_goals (intro e; exact absurd e.symm h3)

section
variable {P : Program} {ops : Array Oper} {Q : Exit → Act → World → Prop} {md : Region.Mode} {S : World → Prop}

def madeVal (cnt : Nat → Nat) (x : Nat × Nat) : Value := .slice (some ⟨x.2, 0, none⟩) (cnt x.1) (cnt x.1)
abbrev putD (dst : Nat → Tmp) (cnt : Nat → Nat) (D : List (Nat × Nat)) : List (Tmp × Value) := D.map fun x => (dst x.1, madeVal cnt x)

theorem makes_step (a : Act) (listed0 : Array Bool) (w0 : World) (M : List Nat) (dst : Nat → Tmp) (cnt : Nat → Nat) (obj : Nat → Obj) (fuel : Nat)
    (hS : ∀ w o, S w → S (w.alloc o)) (hM : ∀ m ∈ M, m ∈ Region.ready md ops listed0)
    (hC : ∀ j o, ops[j]? = some o → listed0.getD j true = false → j ∉ M → (∃ e ∈ o.after, Region.binds md e = true ∧ e.on ∉ M ∧ listed0.getD e.on false = false) ∨ (∀ m ∈ M, ∃ e ∈ o.after, Region.binds md e = true ∧ e.on = m))
    (hrun : ∀ m ∈ M, ∃ o, ops[m]? = some o ∧ o.dst = some (dst m) ∧ ∀ D : List (Tmp × Value), (∀ x ∈ D, ∃ m' ∈ M, x.1 = dst m') →
      Region.wanted o (yielded ops (puts a D).tmps) = true ∧ ∀ w, (execOp (puts a D).eval o).run P w = .ok (.value (.slice (some ⟨w.heap.size, 0, none⟩) (cnt m) (cnt m))) (w.alloc (obj m)))
    (hK : ∀ D w, (D.map (·.1)).Perm M → Made w0 obj D w → S w → wpAnyH P md ops Q S fuel (listAll listed0 (D.map (·.1))) (puts a (putD dst cnt D)) w) :
    ∀ (n : Nat) (R : List Nat) (D : List (Nat × Nat)) (w : World), R.length = n → (D.map (·.1) ++ R).Perm M → (D.map (·.1) ++ R).Nodup → Made w0 obj D w → S w →
      wpAnyH P md ops Q S (n + fuel) (listAll listed0 (D.map (·.1))) (puts a (putD dst cnt D)) w := by
  intro n
  induction n with
  | zero =>
    intro R D w hn hp _ hm hs
    obtain rfl := List.length_eq_zero_iff.1 hn
    rw [Nat.zero_add]
    exact hK D w (by simpa using hp) hm hs
  | succ n ih =>
    intro R D w hn hp hnd hm hs
    have hnot : ∀ j, j ∉ D.map (·.1) → ∀ d, (listAll listed0 (D.map (·.1))).getD j d = listed0.getD j d := fun j hj d => by
      rw [Array.getD_eq_getD_getElem?, Array.getD_eq_getD_getElem?, listAll_get, if_neg (fun h => hj h.1)]
    have hRM : ∀ m ∈ R, m ∈ M ∧ m ∉ D.map (·.1) := fun m hmR => ⟨hp.mem_iff.1 (List.mem_append_right _ hmR), fun hd => (List.nodup_append.1 hnd).2.2 _ hd _ hmR rfl⟩
    have hrd : ∀ m ∈ R, m ∈ Region.ready md ops (listAll listed0 (D.map (·.1))) := fun m hmR => by
      obtain ⟨h1, h2⟩ := hRM m hmR
      obtain ⟨l1, o, ho, l2⟩ := mem_ready.1 (hM m h1)
      refine mem_ready.2 ⟨by rw [hnot m h2]; exact l1, o, ho, fun e he hb => ?_⟩
      have := l2 e he hb
      rw [Array.getD_eq_getD_getElem?] at this ⊢
      rw [listAll_get]
      split
      · rfl
      · exact this
    have hall : ∀ j ∈ Region.ready md ops (listAll listed0 (D.map (·.1))), j ∈ R := fun j hj => by
      obtain ⟨l1, o, ho, l2⟩ := mem_ready.1 hj
      have hjD : j ∉ D.map (·.1) := fun hd => by
        have hjM := hp.mem_iff.1 (List.mem_append_left R hd)
        have hj0 := (mem_ready.1 (hM j hjM)).1
        have hjs : j < listed0.size := by
          rcases Nat.lt_or_ge j listed0.size with h | h
          · exact h
          · simp [Array.getElem?_eq_none h] at hj0
        rw [Array.getD_eq_getD_getElem?, listAll_get, if_pos ⟨hd, hjs⟩] at l1
        cases l1
      rw [hnot j hjD] at l1
      by_cases hjM : j ∈ M
      · rcases List.mem_append.1 (hp.mem_iff.2 hjM) with h | h
        · exact absurd h hjD
        · exact h
      · exfalso
        rcases hC j o ho l1 hjM with ⟨e, he, hb, hm', hl⟩ | hall
        · have := l2 e he hb
          rw [hnot e.on (fun hd => hm' (hp.mem_iff.1 (List.mem_append_left R hd)))] at this
          rw [hl] at this
          cases this
        · obtain ⟨m, hmR⟩ := List.exists_mem_of_length_pos (l := R) (by omega)
          · obtain ⟨h1, h2⟩ := hRM m hmR
            obtain ⟨e, he, hb, hm'⟩ := hall m h1
            have := l2 e he hb
            rw [hm', hnot m h2] at this
            have h0 := (mem_ready.1 (hM m h1)).1
            rw [Array.getD_eq_getD_getElem?] at this h0
            cases hx : listed0[m]? with
            | none => simp [hx] at this
            | some b => simp [hx] at this h0; rw [h0] at this; cases this
    rw [Nat.succ_add]
    refine ⟨fun h0 => ?_, fun i hi => ?_⟩
    · obtain ⟨m, hmR⟩ := List.exists_mem_of_length_pos (l := R) (by omega)
      have := hrd m hmR
      rw [h0] at this
      cases this
    · have hiR := hall i hi
      obtain ⟨hiM, hiD⟩ := hRM i hiR
      obtain ⟨o, ho, hdst, hr⟩ := hrun i hiM
      obtain ⟨hw, hr⟩ := hr (putD dst cnt D) (fun x hx => by
        obtain ⟨y, hy, rfl⟩ := List.mem_map.1 hx
        exact ⟨y.1, hp.mem_iff.1 (List.mem_append_left R (List.mem_map_of_mem hy)), rfl⟩)
      unfold wpOp
      simp only [ho, hw, if_true]
      refine .inl ?_
      unfold Oper.wp
      rw [hr w]
      simp only [Oper.upon]
      refine ⟨hS _ _ hs, ?_⟩
      have hpe : (i :: R.erase i).Perm R := (List.perm_cons_erase hiR).symm
      have e1 : (listAll listed0 (D.map (·.1))).setIfInBounds i true = listAll listed0 ((D ++ [(i, w.heap.size)]).map (·.1)) := by simp [listAll]
      have e2 : (puts a (putD dst cnt D)).put o.dst (.slice (some ⟨w.heap.size, 0, none⟩) (cnt i) (cnt i)) = puts a (putD dst cnt (D ++ [(i, w.heap.size)])) := by
        rw [hdst]
        show _ = puts a (List.map _ (D ++ [(i, w.heap.size)]))
        rw [List.map_append, List.map_cons, List.map_nil, puts_snoc]
        rfl
      rw [e1, e2]
      have hp2 : ((D ++ [(i, w.heap.size)]).map (·.1) ++ R.erase i).Perm (D.map (·.1) ++ R) := by
        simp only [List.map_append, List.map_cons, List.map_nil, List.append_assoc, List.singleton_append]
        exact List.Perm.append_left _ hpe
      exact ih (R.erase i) _ _ (by rw [List.length_erase_of_mem hiR]; omega) (hp2.trans hp) (hp2.nodup_iff.2 hnd) (hm.step i) (hS _ _ hs)

theorem listAll_perm {listed : Array Bool} {M M' : List Nat} (h : M.Perm M') : listAll listed M = listAll listed M' := by
  apply Array.ext_getElem?
  intro j
  rw [listAll_get, listAll_get]
  simp [h.mem_iff]

/-- THE LAW. -/
theorem makes_any (a : Act) (listed0 : Array Bool) (w0 : World) (M : List Nat) (dst : Nat → Tmp) (cnt : Nat → Nat) (obj : Nat → Obj) (fuel : Nat)
    (hS : ∀ w o, S w → S (w.alloc o)) (hS0 : S w0) (hnd : M.Nodup) (hdn : (M.map dst).Nodup) (hM : ∀ m ∈ M, m ∈ Region.ready md ops listed0)
    (hC : ∀ j o, ops[j]? = some o → listed0.getD j true = false → j ∉ M → (∃ e ∈ o.after, Region.binds md e = true ∧ e.on ∉ M ∧ listed0.getD e.on false = false) ∨ (∀ m ∈ M, ∃ e ∈ o.after, Region.binds md e = true ∧ e.on = m))
    (hrun : ∀ m ∈ M, ∃ o, ops[m]? = some o ∧ o.dst = some (dst m) ∧ ∀ D : List (Tmp × Value), (∀ x ∈ D, ∃ m' ∈ M, x.1 = dst m') →
      Region.wanted o (yielded ops (puts a D).tmps) = true ∧ ∀ w, (execOp (puts a D).eval o).run P w = .ok (.value (.slice (some ⟨w.heap.size, 0, none⟩) (cnt m) (cnt m))) (w.alloc (obj m)))
    (hK : ∀ D w, D.map (·.1) = M → Made w0 obj D w → S w → wpAnyH P md ops Q S fuel (listAll listed0 M) (puts a (putD dst cnt D)) w) :
    wpAnyH P md ops Q S (M.length + fuel) listed0 a w0 := by
  have := makes_step (P := P) (Q := Q) a listed0 w0 M dst cnt obj fuel hS hM hC hrun (fun D w hp hm hs => by
    obtain ⟨D', p, hD'⟩ := perm_lift (·.1) hp D rfl
    have h1 := hK D' w hD' (hm.perm p) hs
    have e1 : puts a (putD dst cnt D) = puts a (putD dst cnt D') := by
      refine puts_perm ((p.symm).map _) ?_ a
      have : (putD dst cnt D).map (·.1) = (D.map (·.1)).map dst := by simp [putD]
      rw [this]
      exact ((hp.map dst).nodup_iff).2 hdn
    rw [listAll_perm hp, e1]
    exact h1) M.length M [] w0 rfl (by simp) (by simpa using hnd) ⟨Below.refl _ _, by simp, by simp⟩ hS0
  exact this
/-- the second condition, as a Bool -/
def waitsB (md : Region.Mode) (ops : Array Oper) (listed0 : Array Bool) (M : List Nat) : Bool :=
  (List.range ops.size).all fun j => match ops[j]? with
    | none => true
    | some o => listed0.getD j true || M.contains j || o.after.any (fun e => Region.binds md e && (!M.contains e.on && !listed0.getD e.on false)) || M.all (fun m => o.after.any (fun e => Region.binds md e && e.on == m))
theorem waitsB_spec {listed0 : Array Bool} {M : List Nat} (h : waitsB md ops listed0 M = true) (j : Nat) (o : Oper) (ho : ops[j]? = some o) (hl : listed0.getD j true = false) (hj : j ∉ M) :
    (∃ e ∈ o.after, Region.binds md e = true ∧ e.on ∉ M ∧ listed0.getD e.on false = false) ∨ (∀ m ∈ M, ∃ e ∈ o.after, Region.binds md e = true ∧ e.on = m) := by
  simp only [waitsB, List.all_eq_true, List.mem_range] at h
  have h1 := h j (Array.getElem?_eq_some_iff.1 ho).1
  simp only [ho, hl, Bool.false_or, Bool.or_eq_true, List.contains_iff_mem, hj, false_or] at h1
  rcases h1 with h1 | h1
  · left
    obtain ⟨e, he, hb⟩ := Array.any_eq_true'.1 h1
    simp only [Bool.and_eq_true, Bool.not_eq_true'] at hb
    exact ⟨e, he, hb.1, fun hm => (by have := hb.2.1; rw [List.contains_iff_mem.2 hm] at this; exact Bool.noConfusion this), hb.2.2⟩
  · right
    intro m hm
    rw [List.all_eq_true] at h1
    obtain ⟨e, he, hb⟩ := Array.any_eq_true'.1 (h1 m hm)
    simp only [Bool.and_eq_true, beq_iff_eq] at hb
    exact ⟨e, he, hb.1, hb.2⟩

theorem puts_eval (t : Tmp) : ∀ (D : List (Tmp × Value)) (a : Act), (∀ x ∈ D, x.1 ≠ t) → (puts a D).eval (.tmp t) = a.eval (.tmp t)
  | [], _, _ => rfl
  | x :: D, a, h => by
    show (puts (a.put (some x.1) x.2) D).eval (.tmp t) = _
    rw [puts_eval t D _ (fun y hy => h y (List.mem_cons_of_mem _ hy))]
    exact Act.eval_put (fun d hd he => h x (List.mem_cons_self ..) (by cases hd; injection he with he; exact he.symm))

/-- a make whose count lies in slot x -/
theorem make_run {a : Act} {o : Oper} {t : TypeId} {x : Tmp} {n : Nat} {ob : Obj} (hg : o.guard = none) (hop : o.op = .makeSlice t (.tmp x) (.tmp x)) (hx : a.eval (.tmp x) = .int .i64 n)
    (hm : ∀ w, (Instr.makeSlice t (.int .i64 (n : Int)) (.int .i64 (n : Int))).run P w = .ok (.slice (some ⟨w.heap.size, 0, none⟩) n n) (w.alloc ob))
    (D : List (Tmp × Value)) (hD : ∀ y ∈ D, y.1 ≠ x) : Region.wanted o (yielded ops (puts a D).tmps) = true ∧ ∀ w, (execOp (puts a D).eval o).run P w = .ok (.value (.slice (some ⟨w.heap.size, 0, none⟩) n n)) (w.alloc ob) := by
  refine ⟨by simp [Region.wanted, hg], fun w => ?_⟩
  have he := (puts_eval x D a hD).trans hx
  unfold execOp
  simp only [hop, he, Sem.run_bind, hm w, Result.andThen_ok, Sem.run_pure]
end
end Go.Proofs.Ybulkahla

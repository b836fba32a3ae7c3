import Derived.Test.YbulkahlaNet
import Derived.Lib.SliceRun
namespace Go.Proofs.Ybulkahla
open Go.RowKit
set_option linter.unusedSimpArgs false

/-- the blocks of a 'pairs' -/
structure Bk where
  p : Nat
  ms : Nat
  inn : Nat
  bck : Nat
  car : Nat
  at_ : Nat
  lo : Nat
def Bk.list (k : Bk) : List Nat := [k.p, k.ms, k.inn, k.bck, k.car, k.at_, k.lo]

abbrev pCells (bn nS nR : Nat) (k : Bk) (cnt : Int) : Array Value :=
  #[.pointer (some ⟨bn, 0, none⟩), .int .i64 nS, slv k.ms (nS * nS), slv k.inn (nS * nS), slv k.bck (nS * nS), slv k.car nS, .int .i64 cnt, slv k.at_ nR, slv k.lo nS, nilV]

structure Lay (N B : Nat) (k : Bk) : Prop where
  rng : ∀ x ∈ k.list, N ≤ x ∧ x < B
  nd : k.list.Nodup

structure Prs (wN w : World) (bn nS nR B : Nat) (k : Bk) (cs : Nat → Value) (L : Nat → List Int) (at_ : Nat → Int) (lo : Nat → Bool) (cnt : Int) : Prop where
  lay : Lay wN.heap.size B k
  bel : Below wN.heap.size wN w
  bsz : B ≤ w.heap.size
  p : w.heap[k.p]? = some (.cells (pCells bn nS nR k cnt) 79 (0, 0))
  ms : ∃ f : Nat → Nat, Row w k.ms (nS * nS) 24 (fun i => .float .f64 (f i))
  inn : ∃ f : Nat → Int, Row w k.inn (nS * nS) 3 (fun i => .int .i64 (f i))
  bck : ∃ f : Nat → Int, Row w k.bck (nS * nS) 3 (fun i => .int .i64 (f i))
  car : Row w k.car nS 76 cs
  at_ : Row w k.at_ nR 3 (fun i => .int .i64 (at_ i))
  lo : Row w k.lo nS 4 (fun i => .bool (lo i))
  fam : Fam w B 3 1 nS cs (fun s => (L s).length) (fun s => (L s).map (.int .i64))

/-- of the blocks below B only those of the pairs have been written -/
def Frm (B : Nat) (k : Bk) (w w' : World) : Prop := ∀ x, x < B → x ∉ k.list → w'.heap[x]? = w.heap[x]?
theorem Frm.refl (B : Nat) (k : Bk) (w : World) : Frm B k w w := fun _ _ _ => rfl
theorem Frm.trans {B : Nat} {k : Bk} {w w' w'' : World} (h : Frm B k w w') (h' : Frm B k w' w'') : Frm B k w w'' := fun x hx hk => (h' x hx hk).trans (h x hx hk)
theorem Frm.alloc {B : Nat} {k : Bk} {w w' : World} (h : Frm B k w w') (hB : B ≤ w'.heap.size) (o : Obj) : Frm B k w (w'.alloc o) := fun x hx hk => (Below.heap_alloc _ _ _ (by omega)).trans (h x hx hk)
theorem Frm.drew {B : Nat} {k : Bk} {w w' : World} (h : Frm B k w w') : Frm B k w w'.drew := h
theorem Frm.set {B : Nat} {k : Bk} {w w' : World} (h : Frm B k w w') {a : Addr} (ha : a.block ∈ k.list) (v : Value) : Frm B k w (w'.setCell a v) := fun x hx hk => (heap_set_other w' a v (fun e => hk (by rw [e]; exact ha))).trans (h x hx hk)
theorem Frm.set_far {B : Nat} {k : Bk} {w w' : World} (h : Frm B k w w') {a : Addr} (ha : B ≤ a.block) (v : Value) : Frm B k w (w'.setCell a v) := fun x hx hk => (heap_set_other w' a v (by omega)).trans (h x hx hk)
theorem Frm.grown {B : Nat} {k : Bk} {w w' w'' : World} (h : Frm B k w w') {row : Option Nat} (hg : w'.grownBy w'' row) (hB : B ≤ w'.heap.size) (hr : ∀ x, row = some x → B ≤ x) : Frm B k w w'' := fun x hx hk => (hg.block x (by omega) (fun e => by have := hr x e.symm; omega)).trans (h x hx hk)
theorem Frm.kept {B : Nat} {k : Bk} {w w' : World} (hb : Below w.heap.size w w') (hB : B ≤ w.heap.size) : Frm B k w w' := fun x hx _ => hb.block x (by omega)

section
variable {N B : Nat} {k : Bk}
theorem Lay.ne (h : Lay N B k) : k.p ≠ k.ms ∧ k.p ≠ k.inn ∧ k.p ≠ k.bck ∧ k.p ≠ k.car ∧ k.p ≠ k.at_ ∧ k.p ≠ k.lo ∧ k.ms ≠ k.inn ∧ k.ms ≠ k.bck ∧ k.ms ≠ k.car ∧ k.ms ≠ k.at_ ∧ k.ms ≠ k.lo ∧
    k.inn ≠ k.bck ∧ k.inn ≠ k.car ∧ k.inn ≠ k.at_ ∧ k.inn ≠ k.lo ∧ k.bck ≠ k.car ∧ k.bck ≠ k.at_ ∧ k.bck ≠ k.lo ∧ k.car ≠ k.at_ ∧ k.car ≠ k.lo ∧ k.at_ ≠ k.lo := by
  have := h.nd
  simp only [Bk.list, List.nodup_cons, List.mem_cons, List.not_mem_nil, or_false, not_or] at this
  obtain ⟨⟨a1, a2, a3, a4, a5, a6⟩, ⟨b1, b2, b3, b4, b5⟩, ⟨c1, c2, c3, c4⟩, ⟨d1, d2, d3⟩, ⟨e1, e2⟩, f1, _⟩ := this
  exact ⟨a1, a2, a3, a4, a5, a6, b1, b2, b3, b4, b5, c1, c2, c3, c4, d1, d2, d3, e1, e2, f1⟩
theorem Lay.bd (h : Lay N B k) : (N ≤ k.p ∧ k.p < B) ∧ (N ≤ k.ms ∧ k.ms < B) ∧ (N ≤ k.inn ∧ k.inn < B) ∧ (N ≤ k.bck ∧ k.bck < B) ∧ (N ≤ k.car ∧ k.car < B) ∧ (N ≤ k.at_ ∧ k.at_ < B) ∧ (N ≤ k.lo ∧ k.lo < B) := by
  have := h.rng
  simpa [Bk.list] using this
end

section
variable {wN w w' : World} {bn nS nR B : Nat} {k : Bk} {cs : Nat → Value} {L : Nat → List Int} {at_ : Nat → Int} {lo : Nat → Bool} {cnt : Int}
theorem Prs.drew (h : Prs wN w bn nS nR B k cs L at_ lo cnt) : Prs wN w.drew bn nS nR B k cs L at_ lo cnt :=
  ⟨h.lay, h.bel.drew, h.bsz, h.p, h.ms, h.inn, h.bck, h.car, h.at_, h.lo, h.fam.drew⟩
theorem Prs.alloc (h : Prs wN w bn nS nR B k cs L at_ lo cnt) (o : Obj) : Prs wN (w.alloc o) bn nS nR B k cs L at_ lo cnt :=
  ⟨h.lay, h.bel.alloc h.bel.size o, by have := h.bsz; simp; omega, by rw [Below.heap_alloc _ _ _ (heap_lt h.p)]; exact h.p, let ⟨f, hf⟩ := h.ms; ⟨f, hf.alloc o⟩, let ⟨f, hf⟩ := h.inn; ⟨f, hf.alloc o⟩, let ⟨f, hf⟩ := h.bck; ⟨f, hf.alloc o⟩, h.car.alloc o, h.at_.alloc o, h.lo.alloc o, h.fam.alloc o⟩
/-- what is kept where new blocks alone were written -/
theorem Prs.kept (h : Prs wN w bn nS nR B k cs L at_ lo cnt) (hb : Below w.heap.size w w') : Prs wN w' bn nS nR B k cs L at_ lo cnt :=
  ⟨h.lay, h.bel.trans (hb.mono h.bel.size), Nat.le_trans h.bsz hb.size, (hb.block _ (heap_lt h.p)).trans h.p, let ⟨f, hf⟩ := h.ms; ⟨f, hf.below hb hf.lt⟩, let ⟨f, hf⟩ := h.inn; ⟨f, hf.below hb hf.lt⟩, let ⟨f, hf⟩ := h.bck; ⟨f, hf.below hb hf.lt⟩,
    h.car.below hb h.car.lt, h.at_.below hb h.at_.lt, h.lo.below hb h.lo.lt, h.fam.kept hb⟩
/-- a block below B that is none of the pairs' was written -/
theorem Prs.set_else (h : Prs wN w bn nS nR B k cs L at_ lo cnt) {a : Addr} (ha : a.block < B) (hN : wN.heap.size ≤ a.block) (hk : a.block ∉ k.list) (v : Value) : Prs wN (w.setCell a v) bn nS nR B k cs L at_ lo cnt := by
  simp only [Bk.list, List.mem_cons, List.not_mem_nil, or_false, not_or] at hk
  obtain ⟨h1, h2, h3, h4, h5, h6, h7⟩ := hk
  exact ⟨h.lay, h.bel.setCell hN _, by have := h.bsz; simpa [World.setCell] using this, by rw [heap_set_other _ _ _ (Ne.symm h1)]; exact h.p, let ⟨f, hf⟩ := h.ms; ⟨f, hf.other (Ne.symm h2) _⟩, let ⟨f, hf⟩ := h.inn; ⟨f, hf.other (Ne.symm h3) _⟩, let ⟨f, hf⟩ := h.bck; ⟨f, hf.other (Ne.symm h4) _⟩,
    h.car.other (Ne.symm h5) _, h.at_.other (Ne.symm h6) _, h.lo.other (Ne.symm h7) _, h.fam.set_below ha _⟩
theorem Prs.set_ms (h : Prs wN w bn nS nR B k cs L at_ lo cnt) (i x : Nat) : Prs wN (w.setCell ⟨k.ms, i, none⟩ (.float .f64 x)) bn nS nR B k cs L at_ lo cnt := by
  obtain ⟨n1, n2, n3, n4, n5, n6, n7, n8, n9, n10, n11, n12, n13, n14, n15, n16, n17, n18, n19, n20, n21⟩ := h.lay.ne
  obtain ⟨b1, b2, b3, b4, b5, b6, b7⟩ := h.lay.bd
  refine ⟨h.lay, h.bel.setCell b2.1 _, by have := h.bsz; simpa [World.setCell] using this, by rw [heap_set_other _ _ _ n1]; exact h.p, ?_, let ⟨f, hf⟩ := h.inn; ⟨f, hf.other (Ne.symm n7) _⟩, let ⟨f, hf⟩ := h.bck; ⟨f, hf.other (Ne.symm n8) _⟩,
    h.car.other (Ne.symm n9) _, h.at_.other (Ne.symm n10) _, h.lo.other (Ne.symm n11) _, h.fam.set_below b2.2 _⟩
  obtain ⟨f, hf⟩ := h.ms
  exact ⟨upd f i x, (hf.set (k := i) (.float .f64 x)).congr fun j _ => by unfold upd; split <;> rfl⟩
theorem Prs.set_inn (h : Prs wN w bn nS nR B k cs L at_ lo cnt) (i : Nat) (x : Int) : Prs wN (w.setCell ⟨k.inn, i, none⟩ (.int .i64 x)) bn nS nR B k cs L at_ lo cnt := by
  obtain ⟨n1, n2, n3, n4, n5, n6, n7, n8, n9, n10, n11, n12, n13, n14, n15, n16, n17, n18, n19, n20, n21⟩ := h.lay.ne
  obtain ⟨b1, b2, b3, b4, b5, b6, b7⟩ := h.lay.bd
  refine ⟨h.lay, h.bel.setCell b3.1 _, by have := h.bsz; simpa [World.setCell] using this, by rw [heap_set_other _ _ _ n2]; exact h.p, let ⟨f, hf⟩ := h.ms; ⟨f, hf.other n7 _⟩, ?_, let ⟨f, hf⟩ := h.bck; ⟨f, hf.other (Ne.symm n12) _⟩,
    h.car.other (Ne.symm n13) _, h.at_.other (Ne.symm n14) _, h.lo.other (Ne.symm n15) _, h.fam.set_below b3.2 _⟩
  obtain ⟨f, hf⟩ := h.inn
  exact ⟨upd f i x, (hf.set (k := i) (.int .i64 x)).congr fun j _ => by unfold upd; split <;> rfl⟩
theorem Prs.set_bck (h : Prs wN w bn nS nR B k cs L at_ lo cnt) (i : Nat) (x : Int) : Prs wN (w.setCell ⟨k.bck, i, none⟩ (.int .i64 x)) bn nS nR B k cs L at_ lo cnt := by
  obtain ⟨n1, n2, n3, n4, n5, n6, n7, n8, n9, n10, n11, n12, n13, n14, n15, n16, n17, n18, n19, n20, n21⟩ := h.lay.ne
  obtain ⟨b1, b2, b3, b4, b5, b6, b7⟩ := h.lay.bd
  refine ⟨h.lay, h.bel.setCell b4.1 _, by have := h.bsz; simpa [World.setCell] using this, by rw [heap_set_other _ _ _ n3]; exact h.p, let ⟨f, hf⟩ := h.ms; ⟨f, hf.other n8 _⟩, let ⟨f, hf⟩ := h.inn; ⟨f, hf.other n12 _⟩, ?_,
    h.car.other (Ne.symm n16) _, h.at_.other (Ne.symm n17) _, h.lo.other (Ne.symm n18) _, h.fam.set_below b4.2 _⟩
  obtain ⟨f, hf⟩ := h.bck
  exact ⟨upd f i x, (hf.set (k := i) (.int .i64 x)).congr fun j _ => by unfold upd; split <;> rfl⟩
theorem Prs.set_at (h : Prs wN w bn nS nR B k cs L at_ lo cnt) (i : Nat) (x : Int) : Prs wN (w.setCell ⟨k.at_, i, none⟩ (.int .i64 x)) bn nS nR B k cs L (upd at_ i x) lo cnt := by
  obtain ⟨n1, n2, n3, n4, n5, n6, n7, n8, n9, n10, n11, n12, n13, n14, n15, n16, n17, n18, n19, n20, n21⟩ := h.lay.ne
  obtain ⟨b1, b2, b3, b4, b5, b6, b7⟩ := h.lay.bd
  exact ⟨h.lay, h.bel.setCell b6.1 _, by have := h.bsz; simpa [World.setCell] using this, by rw [heap_set_other _ _ _ n5]; exact h.p, let ⟨f, hf⟩ := h.ms; ⟨f, hf.other n10 _⟩, let ⟨f, hf⟩ := h.inn; ⟨f, hf.other n14 _⟩, let ⟨f, hf⟩ := h.bck; ⟨f, hf.other n17 _⟩,
    h.car.other n19 _, (h.at_.set (k := i) (.int .i64 x)).congr fun j _ => (by unfold upd; split <;> rfl), h.lo.other (Ne.symm n21) _, h.fam.set_below b6.2 _⟩
theorem Prs.set_lo (h : Prs wN w bn nS nR B k cs L at_ lo cnt) (i : Nat) (x : Bool) : Prs wN (w.setCell ⟨k.lo, i, none⟩ (.bool x)) bn nS nR B k cs L at_ (upd lo i x) cnt := by
  obtain ⟨n1, n2, n3, n4, n5, n6, n7, n8, n9, n10, n11, n12, n13, n14, n15, n16, n17, n18, n19, n20, n21⟩ := h.lay.ne
  obtain ⟨b1, b2, b3, b4, b5, b6, b7⟩ := h.lay.bd
  exact ⟨h.lay, h.bel.setCell b7.1 _, by have := h.bsz; simpa [World.setCell] using this, by rw [heap_set_other _ _ _ n6]; exact h.p, let ⟨f, hf⟩ := h.ms; ⟨f, hf.other n11 _⟩, let ⟨f, hf⟩ := h.inn; ⟨f, hf.other n15 _⟩, let ⟨f, hf⟩ := h.bck; ⟨f, hf.other n18 _⟩,
    h.car.other n20 _, h.at_.other n21 _, (h.lo.set (k := i) (.bool x)).congr fun j _ => (by unfold upd; split <;> rfl), h.fam.set_below b7.2 _⟩
theorem Prs.set_cnt (h : Prs wN w bn nS nR B k cs L at_ lo cnt) (x : Int) : Prs wN (w.setCell ⟨k.p, 6, none⟩ (.int .i64 x)) bn nS nR B k cs L at_ lo x := by
  obtain ⟨n1, n2, n3, n4, n5, n6, n7, n8, n9, n10, n11, n12, n13, n14, n15, n16, n17, n18, n19, n20, n21⟩ := h.lay.ne
  obtain ⟨b1, b2, b3, b4, b5, b6, b7⟩ := h.lay.bd
  exact ⟨h.lay, h.bel.setCell b1.1 _, by have := h.bsz; simpa [World.setCell] using this, heap_set_same h.p 6 _, let ⟨f, hf⟩ := h.ms; ⟨f, hf.other (Ne.symm n1) _⟩, let ⟨f, hf⟩ := h.inn; ⟨f, hf.other (Ne.symm n2) _⟩, let ⟨f, hf⟩ := h.bck; ⟨f, hf.other (Ne.symm n3) _⟩,
    h.car.other (Ne.symm n4) _, h.at_.other (Ne.symm n5) _, h.lo.other (Ne.symm n6) _, h.fam.set_below b1.2 _⟩
/-- source s's slice is stored, and the family is what the new slices say -/
theorem Prs.set_car (h : Prs wN w bn nS nR B k cs L at_ lo cnt) (s : Nat) {v : Value} {L' : Nat → List Int} (hf : Fam w B 3 1 nS (upd cs s v) (fun s => (L' s).length) (fun s => (L' s).map (.int .i64))) : Prs wN (w.setCell ⟨k.car, s, none⟩ v) bn nS nR B k (upd cs s v) L' at_ lo cnt := by
  obtain ⟨n1, n2, n3, n4, n5, n6, n7, n8, n9, n10, n11, n12, n13, n14, n15, n16, n17, n18, n19, n20, n21⟩ := h.lay.ne
  obtain ⟨b1, b2, b3, b4, b5, b6, b7⟩ := h.lay.bd
  exact ⟨h.lay, h.bel.setCell b5.1 _, by have := h.bsz; simpa [World.setCell] using this, by rw [heap_set_other _ _ _ n4]; exact h.p, let ⟨f, hf⟩ := h.ms; ⟨f, hf.other n9 _⟩, let ⟨f, hf⟩ := h.inn; ⟨f, hf.other n13 _⟩, let ⟨f, hf⟩ := h.bck; ⟨f, hf.other n16 _⟩,
    h.car.set _, h.at_.other (Ne.symm n19) _, h.lo.other (Ne.symm n20) _, hf.set_below b5.2 _⟩
/-- the fixed rows where only a row of the family, or new blocks, were written -/
theorem Prs.fixed (h : Prs wN w bn nS nR B k cs L at_ lo cnt) (hb : Below B w w') {cs' : Nat → Value} {L' : Nat → List Int} (hcs : cs' = cs) (hf : Fam w' B 3 1 nS cs' (fun s => (L' s).length) (fun s => (L' s).map (.int .i64))) : Prs wN w' bn nS nR B k cs' L' at_ lo cnt := by
  obtain ⟨b1, b2, b3, b4, b5, b6, b7⟩ := h.lay.bd
  subst hcs
  have hNB : wN.heap.size ≤ B := by omega
  exact ⟨h.lay, h.bel.trans (hb.mono hNB), Nat.le_trans h.bsz hb.size, (hb.block _ b1.2).trans h.p, let ⟨f, hf⟩ := h.ms; ⟨f, hf.below hb b2.2⟩, let ⟨f, hf⟩ := h.inn; ⟨f, hf.below hb b3.2⟩, let ⟨f, hf⟩ := h.bck; ⟨f, hf.below hb b4.2⟩,
    h.car.below hb b5.2, h.at_.below hb b6.2, h.lo.below hb b7.2, hf⟩
theorem Prs.pc (h : Prs wN w bn nS nR B k cs L at_ lo cnt) : w.cell? ⟨k.p, 0, none⟩ = some (.pointer (some ⟨bn, 0, none⟩)) ∧ w.cell? ⟨k.p, 1, none⟩ = some (.int .i64 nS) ∧ w.cell? ⟨k.p, 2, none⟩ = some (slv k.ms (nS * nS)) ∧
    w.cell? ⟨k.p, 3, none⟩ = some (slv k.inn (nS * nS)) ∧ w.cell? ⟨k.p, 4, none⟩ = some (slv k.bck (nS * nS)) ∧ w.cell? ⟨k.p, 5, none⟩ = some (slv k.car nS) ∧ w.cell? ⟨k.p, 6, none⟩ = some (.int .i64 cnt) ∧ w.cell? ⟨k.p, 7, none⟩ = some (slv k.at_ nR) ∧
    w.cell? ⟨k.p, 8, none⟩ = some (slv k.lo nS) ∧ w.frozen? ⟨k.p, 6, none⟩ = false := by
  have hp := h.p
  refine ⟨?_, ?_, ?_, ?_, ?_, ?_, ?_, ?_, ?_, ?_⟩ <;> simp [World.cell?, World.frozen?, hp]
end
end Go.Proofs.Ybulkahla

import Derived.Test.YbulkahneAt
namespace Go.Proofs.Ybulkahne
open Go.RowKit Go.Lib
set_option linter.unusedSimpArgs false

/-- Below block B, but for the blocks c and d, the world w' is as w was. -/
structure But (B c d : Nat) (w w' : World) : Prop where
  os : w'.os = w.os
  tape : w'.tape = w.tape
  output : w'.output = w.output
  size : w.heap.size ≤ w'.heap.size
  block : ∀ k, k < B → k ≠ c → k ≠ d → w'.heap[k]? = w.heap[k]?

section
variable {B c d : Nat} {w w' w'' : World}
theorem But.refl (B c d : Nat) (w : World) : But B c d w w := ⟨rfl, rfl, rfl, Nat.le_refl _, fun _ _ _ _ => rfl⟩
theorem But.trans (h : But B c d w w') (k : But B c d w' w'') : But B c d w w'' :=
  ⟨k.os.trans h.os, k.tape.trans h.tape, k.output.trans h.output, Nat.le_trans h.size k.size, fun i hi h1 h2 => (k.block i hi h1 h2).trans (h.block i hi h1 h2)⟩
theorem But.of_below (h : Below w.heap.size w w') (hB : B ≤ w.heap.size) : But B c d w w' := ⟨h.os, h.tape, h.output, h.size, fun k hk _ _ => h.block k (by omega)⟩
theorem But.drew (h : But B c d w w') : But B c d w w'.drew := ⟨h.os, h.tape, h.output, h.size, h.block⟩
theorem But.alloc (h : But B c d w w') (hB : B ≤ w'.heap.size) (o : Obj) : But B c d w (w'.alloc o) :=
  h.trans ⟨rfl, rfl, rfl, by simp, fun k hk _ _ => Below.heap_alloc _ _ _ (by omega)⟩
theorem But.set (h : But B c d w w') {p : Addr} (hp : p.block = c ∨ p.block = d) (u : Value) : But B c d w (w'.setCell p u) :=
  h.trans ⟨rfl, rfl, rfl, by simp [World.setCell], fun k _ h1 h2 => Below.heap_setCell _ _ _ _ (by rcases hp with e | e <;> omega)⟩
theorem But.grown (h : But B c d w w') {row : Option Nat} (hg : w'.grownBy w'' row) (hB : B ≤ w'.heap.size) (hr : ∀ k, row = some k → B ≤ k) : But B c d w w'' :=
  h.trans ⟨hg.os, hg.tape, hg.output, hg.size, fun k hk _ _ => hg.block k (by omega) (fun e => by have := hr k e.symm; omega)⟩
theorem But.cell (h : But B c d w w') {p : Addr} (hp : p.block < B) (h1 : p.block ≠ c) (h2 : p.block ≠ d) : w'.cell? p = w.cell? p := World.cell?_of_block (w := w) (h.block p.block hp h1 h2)
theorem But.below (h : But B c d w w') {A : Nat} (hB : A ≤ B) (hc : A ≤ c) (hd : A ≤ d) : Below A w w' := ⟨h.os, h.tape, h.output, h.size, fun k hk => h.block k (by omega) (by omega) (by omega)⟩
end

/-- One entry: line, section, key, value. -/
abbrev Ent := Int × ByteArray × ByteArray × ByteArray
def entCells (e : Ent) : List Value := [.int .i64 e.1, .string e.2.1, .string e.2.2.1, .string e.2.2.2]
def entsCells (l : List Ent) : List Value := l.flatMap entCells
theorem entsCells_snoc (l : List Ent) (e : Ent) : entsCells (l ++ [e]) = entsCells l ++ entCells e := by simp [entsCells]

theorem Yba.info34 : (Yba.prog.info? 34).map (fun i => (i.zero, i.size, i.bytes)) = some (some (.agg #[.int .i64 0, .string ⟨#[]⟩, .string ⟨#[]⟩, .string ⟨#[]⟩]), 4, 56) := by kernel_rfl

/-- what has been gathered: the slice in the cell of block d owns the entries es -/
structure Got (base d : Nat) (es : List Ent) (w : World) : Prop where
  row : ∃ v, w.cell? ⟨d, 0, none⟩ = some v ∧ w.ownsRow base 34 4 v es.length (entsCells es)
  free : w.frozen? ⟨d, 0, none⟩ = false

theorem Got.below {base d : Nat} {es : List Ent} {w w' : World} (h : Got base d es w) (hb : Below w.heap.size w w') : Got base d es w' := by
  obtain ⟨v, hv, ho⟩ := h.row
  have hlt := World.block_lt_of_cell? w _ hv
  refine ⟨⟨v, cell_kept hb hv, ho.1, ?_⟩, by rw [hb.frozen (p := ⟨d, 0, none⟩) hlt]; exact h.free⟩
  rcases ho.2 with h0 | ⟨g, cap, cur, hv', hb', hg, r⟩
  · exact .inl h0
  · exact .inr ⟨g, cap, cur, hv', hb', by rw [hb.block g (Array.getElem?_eq_some_iff.1 hg).1]; exact hg, r⟩
theorem Got.drew {base d : Nat} {es : List Ent} {w : World} (h : Got base d es w) : Got base d es w.drew := ⟨h.row, h.free⟩

theorem ent_news {w : World} {A : Obj} {e : Ent} : ∀ j u, (entCells e)[j]? = some u → ((w.alloc A).alloc (.cells #[.int .i64 e.1, .string e.2.1, .string e.2.2.1, .string e.2.2.2] 34)).cell? ((⟨w.heap.size + 1, 0, none⟩ : Addr).add j) = some u := by
  intro j u hj
  match j, hj with
  | 0, hj | 1, hj | 2, hj | 3, hj => simp [entCells] at hj; subst hj; simp [Addr.add, go_sem]
theorem ent_one (e : Ent) : ∀ u ∈ entCells e, u.oneCell' = true := by
  intro u hu; simp [entCells] at hu; rcases hu with rfl | rfl | rfl | rfl <;> rfl

set_option maxHeartbeats 1000000 in
theorem yieldStop_any (base c d sp : Nat) (stop : Int) (es : List Ent) (e : Ent) (w : World) (hcd : c ≠ d) (hc : c < base) (hd : d < base) (hsp : sp < base) (hspc : sp ≠ c) (hspd : sp ≠ d) (hbs : base ≤ w.heap.size) (hes : es.length ≤ 256)
    (hcal : w.cell? ⟨c, 0, none⟩ = some (.int .i64 es.length)) (hcf : w.frozen? ⟨c, 0, none⟩ = false) (hstop : w.cell? ⟨sp, 0, none⟩ = some (.int .i64 stop)) (hg : Got base d es w) :
    Calls Yba.prog 10 #[.agg #[.int .i64 e.1, .string e.2.1, .string e.2.2.1, .string e.2.2.2], .pointer (some ⟨c, 0, none⟩), .pointer (some ⟨d, 0, none⟩), .pointer (some ⟨sp, 0, none⟩)] w fun en w' =>
      en = .returned (.bool (decide ((es.length : Int) + 1 < stop))) ∧ w'.cell? ⟨c, 0, none⟩ = some (.int .i64 ((es ++ [e]).length : Nat)) ∧ w'.frozen? ⟨c, 0, none⟩ = false ∧ Got base d (es ++ [e]) w' ∧ But base c d w w' := by
  obtain ⟨i0, hi, hz0, hz1, hz2⟩ := info_parts Yba.info34
  obtain ⟨v, hv, ho⟩ := hg.row
  have hdf := hg.free
  have hcd' : d ≠ c := fun h => hcd h.symm
  have hc' : c < w.heap.size := by omega
  have hd' : d < w.heap.size := by omega
  have hsp' : sp < w.heap.size := by omega
  clear hg
  obtain ⟨p0, c0, rfl⟩ := ownsRow_slice ho
  go_enter Yba.func10, Yba.ntmps10
  have how : (w.setCell ⟨c, 0, none⟩ (.int .i64 ((es.length : Int) + 1))).ownsRow base 34 4 (.slice p0 es.length c0) es.length (entsCells es) := ownsRow_setCell_below ho hc _
  go_wp2_with (at_builtin; refine wpList_append_own _ rfl _ _ 29 rfl base 34 i0 _ 4 56 Yba.underlying29 hi hz0 hz1 hz2 rfl (by decide) _ _ _ rfl ((how.alloc _).alloc _) ⟨w.heap.size + 1, 0, none⟩ 1 1 (entCells e) rfl rfl ?c1 ?c2 ?c3 ?c4 ?c5 ?_)
  case c1 => exact fun j u hj => by simpa using ent_news (w := w.setCell ⟨c, 0, none⟩ (.int .i64 ((es.length : Int) + 1))) j u hj
  case c2 => exact ent_one e
  case c3 => unfold maxLen; omega
  case c4 => omega
  case c5 => simp; omega
  intro v' w2 ho2 hg2 _
  have hne : ∀ b, b < base → some b ≠ (Value.slice p0 es.length c0).ownBlock := fun b hb h => by have := (ho.lt b h.symm).1; omega
  have q1 := hg2.cell (a := ⟨c, 0, none⟩) (v := .int .i64 ((es.length : Int) + 1)) (by go_simp) (hne c hc)
  have q2 := hg2.cell (a := ⟨d, 0, none⟩) (v := .slice p0 es.length c0) (by go_simp) (hne d hd)
  have q3 := hg2.cell (a := ⟨sp, 0, none⟩) (v := .int .i64 stop) (by go_simp) (hne sp hsp)
  have f1 : w2.frozen? ⟨c, 0, none⟩ = false := by
    rw [World.frozen?_of_block (a := ⟨c, 0, none⟩) (hg2.block c (by simp; omega) (hne c hc))]
    go_simp
  have f2 : w2.frozen? ⟨d, 0, none⟩ = false := by
    rw [World.frozen?_of_block (a := ⟨d, 0, none⟩) (hg2.block d (by simp; omega) (hne d hd))]
    go_simp
  have hBut : But base c d w w2 := (((But.refl base c d w).set (p := ⟨c, 0, none⟩) (.inl rfl) _).alloc (by simpa using hbs) _).alloc (by simp; omega) _ |>.grown hg2 (by simp; omega) (fun k hk => (ho.lt k hk).1)
  obtain ⟨p1, c1, rfl⟩ := ownsRow_slice ho2
  clear hg2 how ho hcal hcf hstop hv hdf
  go_wp2_with fail
  go_ret
  refine ⟨rfl, ?_, ?_, ⟨⟨.slice p1 (es.length + 1) c1, ?_, ?_⟩, ?_⟩, hBut.set (.inr rfl) _⟩
  · go_simp
  · go_simp
  · exact World.cell?_setCell_same _ _ _ q2
  · have h := ownsRow_setCell_below (a := ⟨d, 0, none⟩) ho2 hd (.slice p1 (es.length + 1) c1)
    rw [entsCells_snoc]
    simpa using h
  · go_simp

set_option maxHeartbeats 1000000 in
theorem yieldAll_any (base d : Nat) (es : List Ent) (e : Ent) (w : World) (hd : d < base) (hbs : base ≤ w.heap.size) (hes : es.length ≤ 256) (hg : Got base d es w) :
    Calls Yba.prog 9 #[.agg #[.int .i64 e.1, .string e.2.1, .string e.2.2.1, .string e.2.2.2], .pointer (some ⟨d, 0, none⟩)] w fun en w' =>
      en = .returned (.bool true) ∧ Got base d (es ++ [e]) w' ∧ But base d d w w' := by
  obtain ⟨i0, hi, hz0, hz1, hz2⟩ := info_parts Yba.info34
  obtain ⟨v, hv, ho⟩ := hg.row
  have hdf := hg.free
  have hd' : d < w.heap.size := by omega
  clear hg
  obtain ⟨p0, c0, rfl⟩ := ownsRow_slice ho
  go_enter Yba.func9, Yba.ntmps9
  go_wp2_with (at_builtin; refine wpList_append_own _ rfl _ _ 29 rfl base 34 i0 _ 4 56 Yba.underlying29 hi hz0 hz1 hz2 rfl (by decide) _ _ _ rfl ((ho.alloc _).alloc _) ⟨w.heap.size + 1, 0, none⟩ 1 1 (entCells e) rfl rfl ?c1 ?c2 ?c3 ?c4 ?c5 ?_)
  case c1 => exact ent_news (w := w)
  case c2 => exact ent_one e
  case c3 => unfold maxLen; omega
  case c4 => omega
  case c5 => simp; omega
  intro v' w2 ho2 hg2 _
  have hne : ∀ b, b < base → some b ≠ (Value.slice p0 es.length c0).ownBlock := fun b hb h => by have := (ho.lt b h.symm).1; omega
  have q2 := hg2.cell (a := ⟨d, 0, none⟩) (v := .slice p0 es.length c0) (by go_simp) (hne d hd)
  have f2 : w2.frozen? ⟨d, 0, none⟩ = false := by
    rw [World.frozen?_of_block (a := ⟨d, 0, none⟩) (hg2.block d (by simp; omega) (hne d hd))]
    go_simp
  have hBut : But base d d w w2 := ((But.refl base d d w).alloc hbs _).alloc (by simp; omega) _ |>.grown hg2 (by simp; omega) (fun k hk => (ho.lt k hk).1)
  obtain ⟨p1, c1, rfl⟩ := ownsRow_slice ho2
  clear hg2 ho hv hdf
  go_wp2_with fail
  go_ret
  refine ⟨rfl, ⟨⟨.slice p1 (es.length + 1) c1, ?_, ?_⟩, ?_⟩, hBut.set (.inr rfl) _⟩
  · exact World.cell?_setCell_same _ _ _ q2
  · have h := ownsRow_setCell_below (a := ⟨d, 0, none⟩) ho2 hd (.slice p1 (es.length + 1) c1)
    rw [entsCells_snoc]
    simpa using h
  · go_simp
end Go.Proofs.Ybulkahne

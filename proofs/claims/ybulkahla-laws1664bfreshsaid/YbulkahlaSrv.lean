import Derived.Test.YbulkahlaLeaves
namespace Go.Proofs.Ybulkahla
open Go.RowKit

/-- One level: least, load, latency (bits), probes, samples. -/
abbrev Lvl := Nat × Nat × Nat × Int × Int
def lvlCells (s : Lvl) : List Value := [.float .f64 s.1, .float .f64 s.2.1, .float .f64 s.2.2.1, .int .i64 s.2.2.2.1, .int .i64 s.2.2.2.2]
def lvlsCells (l : List Lvl) : List Value := l.flatMap lvlCells
theorem lvlsCells_snoc (l : List Lvl) (s : Lvl) : lvlsCells (l ++ [s]) = lvlsCells l ++ lvlCells s := by simp [lvlsCells]

/-- A row of samples in memory. -/
def SmpRow (w : World) (b : Nat) (l : List Smp) : Prop :=
  ∀ i s, l[i]? = some s → w.cell? ⟨b, i * 9, none⟩ = some (.float .f64 s.1) ∧ w.cell? ⟨b, i * 9 + 1, none⟩ = some (.float .f64 s.2.1) ∧ w.cell? ⟨b, i * 9 + 2, none⟩ = some (.float .f64 0) ∧
    w.cell? ⟨b, i * 9 + 3, none⟩ = some (.float .f64 s.2.2.1) ∧ w.cell? ⟨b, i * 9 + 4, none⟩ = some (.int .i64 s.2.2.2) ∧ w.cell? ⟨b, i * 9 + 5, none⟩ = some (.int .i64 0) ∧
    w.cell? ⟨b, i * 9 + 6, none⟩ = some (.bool false) ∧ w.cell? ⟨b, i * 9 + 7, none⟩ = some (.float .f64 0) ∧ w.cell? ⟨b, i * 9 + 8, none⟩ = some (.float .f64 0)

/-- A row of levels in memory. -/
def LvlRow (w : World) (b : Nat) (l : List Lvl) : Prop :=
  ∀ i s, l[i]? = some s → w.cell? ⟨b, i * 5, none⟩ = some (.float .f64 s.1) ∧ w.cell? ⟨b, i * 5 + 1, none⟩ = some (.float .f64 s.2.1) ∧ w.cell? ⟨b, i * 5 + 2, none⟩ = some (.float .f64 s.2.2.1) ∧
    w.cell? ⟨b, i * 5 + 3, none⟩ = some (.int .i64 s.2.2.2.1) ∧ w.cell? ⟨b, i * 5 + 4, none⟩ = some (.int .i64 s.2.2.2.2)

theorem cell_kept {w w' : World} (h : Below w.heap.size w w') {a : Addr} {v : Value} (hc : w.cell? a = some v) : w'.cell? a = some v := by
  rw [h.cell (World.block_lt_of_cell? w a hc)]; exact hc

theorem SmpRow.below {w w' : World} {b : Nat} {l : List Smp} (h : SmpRow w b l) (hb : Below w.heap.size w w') : SmpRow w' b l := by
  intro i s hs
  obtain ⟨h0, h1, h2, h3, h4, h5, h6, h7, h8⟩ := h i s hs
  exact ⟨cell_kept hb h0, cell_kept hb h1, cell_kept hb h2, cell_kept hb h3, cell_kept hb h4, cell_kept hb h5, cell_kept hb h6, cell_kept hb h7, cell_kept hb h8⟩

theorem LvlRow.below {w w' : World} {b : Nat} {l : List Lvl} (h : LvlRow w b l) (hb : Below w.heap.size w w') : LvlRow w' b l := by
  intro i s hs
  obtain ⟨h0, h1, h2, h3, h4⟩ := h i s hs
  exact ⟨cell_kept hb h0, cell_kept hb h1, cell_kept hb h2, cell_kept hb h3, cell_kept hb h4⟩

/-- A server with its samples and the reading that it holds. -/
structure SrvAt (w : World) (bs bl cl br bg cg : Nat) (l : List Smp) (gs : List Lvl) (least : Nat) (mp : Int) : Prop where
  samples : w.cell? ⟨bs, 5, none⟩ = some (.slice (some ⟨bl, 0, none⟩) l.length cl)
  reading : w.cell? ⟨bs, 6, none⟩ = some (.pointer (some ⟨br, 0, none⟩))
  leastAt : w.cell? ⟨br, 0, none⟩ = some (.float .f64 least)
  msAt : w.cell? ⟨br, 3, none⟩ = some (.float .f64 0)
  mpAt : w.cell? ⟨br, 4, none⟩ = some (.int .i64 mp)
  groups : w.cell? ⟨br, 5, none⟩ = some (.slice (some ⟨bg, 0, none⟩) gs.length cg)
  smp : SmpRow w bl l
  lvl : LvlRow w bg gs

theorem SrvAt.below {w w' : World} {bs bl cl br bg cg : Nat} {l : List Smp} {gs : List Lvl} {least : Nat} {mp : Int} (h : SrvAt w bs bl cl br bg cg l gs least mp) (hb : Below w.heap.size w w') :
    SrvAt w' bs bl cl br bg cg l gs least mp :=
  ⟨cell_kept hb h.samples, cell_kept hb h.reading, cell_kept hb h.leastAt, cell_kept hb h.msAt, cell_kept hb h.mpAt, cell_kept hb h.groups, h.smp.below hb, h.lvl.below hb⟩

theorem flatMap_getElem? {α β : Type} (f : α → List β) (n : Nat) (hf : ∀ x, (f x).length = n) (l : List α) : ∀ (i j : Nat) (s : α), l[i]? = some s → j < n → (l.flatMap f)[i * n + j]? = (f s)[j]? := by
  induction l with
  | nil => intro i j s h; simp at h
  | cons x xs ih =>
    intro i j s h hj
    cases i with
    | zero =>
      simp at h
      subst h
      rw [List.flatMap_cons, List.getElem?_append_left (by rw [hf]; omega)]
      simp
    | succ i =>
      simp at h
      rw [List.flatMap_cons, List.getElem?_append_right (by rw [hf]; rw [Nat.succ_mul]; omega), hf]
      have : (i + 1) * n + j - n = i * n + j := by rw [Nat.succ_mul]; omega
      rw [this]
      exact ih i j s h hj

theorem smpRow_of_owns {w : World} {base g n cap : Nat} {l : List Smp} (h : w.ownsRow base 42 9 (.slice (some ⟨g, 0, none⟩) n cap) n (smpsCells l)) (hn : n = l.length) : SmpRow w g l := by
  subst hn
  intro i s hs
  have hi : i < l.length := (List.getElem?_eq_some_iff.1 hs).1
  have key : ∀ j, j < 9 → w.cell? ⟨g, i * 9 + j, none⟩ = (smpCells s)[j]? := fun j hj => by
    rw [h.cellAt (i * 9 + j) (by omega)]
    exact flatMap_getElem? smpCells 9 (fun _ => rfl) l i j s hs hj
  exact ⟨key 0 (by omega), key 1 (by omega), key 2 (by omega), key 3 (by omega), key 4 (by omega), key 5 (by omega), key 6 (by omega), key 7 (by omega), key 8 (by omega)⟩

theorem lvlRow_of_owns {w : World} {base g n cap : Nat} {l : List Lvl} (h : w.ownsRow base 32 5 (.slice (some ⟨g, 0, none⟩) n cap) n (lvlsCells l)) (hn : n = l.length) : LvlRow w g l := by
  subst hn
  intro i s hs
  have hi : i < l.length := (List.getElem?_eq_some_iff.1 hs).1
  have key : ∀ j, j < 5 → w.cell? ⟨g, i * 5 + j, none⟩ = (lvlCells s)[j]? := fun j hj => by
    rw [h.cellAt (i * 5 + j) (by omega)]
    exact flatMap_getElem? lvlCells 5 (fun _ => rfl) l i j s hs hj
  exact ⟨key 0 (by omega), key 1 (by omega), key 2 (by omega), key 3 (by omega), key 4 (by omega)⟩

end Go.Proofs.Ybulkahla

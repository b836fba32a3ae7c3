import Derived.Test.YbulkahqyFmtRows
import Derived.WalkKit
import Derived.WalkSpells
import Derived.WalkLawsBesides
import Derived.WalkSmall
import Derived.Deep.QuietTactic
import Derived.BigQuiet
import Derived.BigRegion
import Derived.Deep.DeepCutAuto
import Derived.Deep.CutBlock
namespace Go.Proofs.YbulkahqyFmt
open Go.RowKit
set_option linter.unusedSimpArgs false

/-- What a framer holds: where the record starts, how many are read, how much is fed; and its walker: step, legacy index, place, left, number, message's end, holder's end, extension, name from, name until. -/
structure Fr where
  off : Int
  rc : Int
  fed : Int
  st : Int
  lg : Int
  ps : Int
  lf : Int
  n : Int
  en : Int
  ho : Int
  ex : Int
  n1 : Int
  n2 : Int

def Fr.cells (s : Fr) : Array Value := #[.int .i64 s.off, .int .i64 s.rc, .int .i64 s.fed, .int .u8 s.st, .int .i64 s.lg, .int .i64 s.ps, .int .i64 s.lf, .int .i64 s.n, .int .i64 s.en, .int .i64 s.ho, .int .i64 s.ex, .int .i64 s.n1, .int .i64 s.n2, .int .i64 0, .int .i64 0]

def Blk (w : World) (b : Nat) (s : Fr) : Prop := w.heap[b]? = some (.cells s.cells 33 (0, 0))

theorem heap_set_other (w : World) (a : Addr) (u : Value) {k : Nat} (h : k ≠ a.block) : (w.setCell a u).heap[k]? = w.heap[k]? := by
  simp [World.setCell, Array.getElem?_modify, Ne.symm h]

/-- nothing but block b turns; blocks may be laid -/
def G (b : Nat) (w w' : World) : Prop := w.grownBy w' (some b)

section
variable {w w' w'' : World} {b : Nat} {s : Fr}
theorem G.refl (b : Nat) (w : World) : G b w w := ⟨rfl, rfl, rfl, Nat.le_refl _, fun _ _ _ => rfl⟩
theorem G.trans (h : G b w w') (k : G b w' w'') : G b w w'' :=
  ⟨k.os.trans h.os, k.tape.trans h.tape, k.output.trans h.output, Nat.le_trans h.size k.size, fun j hj hne => (k.block j (Nat.lt_of_lt_of_le hj h.size) hne).trans (h.block j hj hne)⟩
theorem G.drewN (h : G b w w') (m : Nat) : G b w (w'.drewN m) := ⟨h.os, h.tape, h.output, h.size, h.block⟩
theorem G.alloc (h : G b w w') (o : Obj) : G b w (w'.alloc o) :=
  h.trans ⟨rfl, rfl, rfl, by simp, fun j hj _ => Below.heap_alloc _ _ _ hj⟩
theorem G.set (h : G b w w') (o : Nat) (u : Value) : G b w (w'.setCell ⟨b, o, none⟩ u) :=
  h.trans ⟨rfl, rfl, rfl, by simp, fun j _ hne => heap_set_other _ _ _ (fun e => hne (by rw [e]))⟩
theorem G.cell (h : G b w w') {a : Addr} {v : Value} (hc : w.cell? a = some v) (hne : a.block ≠ b) : w'.cell? a = some v := by
  rw [World.cell?_of_block (w := w) (h.block a.block (World.block_lt_of_cell? w a hc) (by simpa using hne))]; exact hc

theorem Blk.lt (h : Blk w b s) : b < w.heap.size := (Array.getElem?_eq_some_iff.1 h).1
theorem Blk.cell (h : Blk w b s) (k : Nat) : w.cell? ⟨b, k, none⟩ = s.cells[k]? := by simp [World.cell?, show w.heap[b]? = _ from h]
theorem Blk.free (h : Blk w b s) (k : Nat) : w.frozen? ⟨b, k, none⟩ = false := by simp [World.frozen?, show w.heap[b]? = _ from h]
theorem Blk.drewN (h : Blk w b s) (m : Nat) : Blk (w.drewN m) b s := h
theorem Blk.alloc (h : Blk w b s) (o : Obj) : Blk (w.alloc o) b s := (Below.heap_alloc _ _ _ h.lt).trans h
theorem Blk.set (h : Blk w b s) (k : Nat) (v : Value) {s' : Fr} (e : s.cells.setIfInBounds k v = s'.cells) : Blk (w.setCell ⟨b, k, none⟩ v) b s' := by
  unfold Blk at h ⊢
  simp [World.setCell, Array.getElem?_modify, h, e]
theorem Blk.set0 (h : Blk w b s) (x : Int) : Blk (w.setCell ⟨b, 0, none⟩ (.int .i64 x)) b { s with off := x } := h.set 0 _ (by simp [Fr.cells])
theorem Blk.set1 (h : Blk w b s) (x : Int) : Blk (w.setCell ⟨b, 1, none⟩ (.int .i64 x)) b { s with rc := x } := h.set 1 _ (by simp [Fr.cells])
theorem Blk.set2 (h : Blk w b s) (x : Int) : Blk (w.setCell ⟨b, 2, none⟩ (.int .i64 x)) b { s with fed := x } := h.set 2 _ (by simp [Fr.cells])
theorem Blk.set3 (h : Blk w b s) (x : Int) : Blk (w.setCell ⟨b, 3, none⟩ (.int .u8 x)) b { s with st := x } := h.set 3 _ (by simp [Fr.cells])
theorem Blk.set4 (h : Blk w b s) (x : Int) : Blk (w.setCell ⟨b, 4, none⟩ (.int .i64 x)) b { s with lg := x } := h.set 4 _ (by simp [Fr.cells])
theorem Blk.set5 (h : Blk w b s) (x : Int) : Blk (w.setCell ⟨b, 5, none⟩ (.int .i64 x)) b { s with ps := x } := h.set 5 _ (by simp [Fr.cells])
theorem Blk.set6 (h : Blk w b s) (x : Int) : Blk (w.setCell ⟨b, 6, none⟩ (.int .i64 x)) b { s with lf := x } := h.set 6 _ (by simp [Fr.cells])
theorem Blk.set7 (h : Blk w b s) (x : Int) : Blk (w.setCell ⟨b, 7, none⟩ (.int .i64 x)) b { s with n := x } := h.set 7 _ (by simp [Fr.cells])
theorem Blk.set8 (h : Blk w b s) (x : Int) : Blk (w.setCell ⟨b, 8, none⟩ (.int .i64 x)) b { s with en := x } := h.set 8 _ (by simp [Fr.cells])
theorem Blk.set9 (h : Blk w b s) (x : Int) : Blk (w.setCell ⟨b, 9, none⟩ (.int .i64 x)) b { s with ho := x } := h.set 9 _ (by simp [Fr.cells])
theorem Blk.set10 (h : Blk w b s) (x : Int) : Blk (w.setCell ⟨b, 10, none⟩ (.int .i64 x)) b { s with ex := x } := h.set 10 _ (by simp [Fr.cells])
theorem Blk.set11 (h : Blk w b s) (x : Int) : Blk (w.setCell ⟨b, 11, none⟩ (.int .i64 x)) b { s with n1 := x } := h.set 11 _ (by simp [Fr.cells])
theorem Blk.set12 (h : Blk w b s) (x : Int) : Blk (w.setCell ⟨b, 12, none⟩ (.int .i64 x)) b { s with n2 := x } := h.set 12 _ (by simp [Fr.cells])
theorem Blk.cs (h : Blk w b s) : w.cell? ⟨b, 0, none⟩ = some (.int .i64 s.off) ∧ w.cell? ⟨b, 1, none⟩ = some (.int .i64 s.rc) ∧ w.cell? ⟨b, 2, none⟩ = some (.int .i64 s.fed) ∧ w.cell? ⟨b, 3, none⟩ = some (.int .u8 s.st) ∧ w.cell? ⟨b, 4, none⟩ = some (.int .i64 s.lg) ∧
    w.cell? ⟨b, 5, none⟩ = some (.int .i64 s.ps) ∧ w.cell? ⟨b, 6, none⟩ = some (.int .i64 s.lf) ∧ w.cell? ⟨b, 7, none⟩ = some (.int .i64 s.n) ∧ w.cell? ⟨b, 8, none⟩ = some (.int .i64 s.en) ∧ w.cell? ⟨b, 9, none⟩ = some (.int .i64 s.ho) ∧ w.cell? ⟨b, 10, none⟩ = some (.int .i64 s.ex) ∧
    w.cell? ⟨b, 11, none⟩ = some (.int .i64 s.n1) ∧ w.cell? ⟨b, 12, none⟩ = some (.int .i64 s.n2) ∧ w.cell? ⟨b, 14, none⟩ = some (.int .i64 0) :=
  ⟨h.cell 0, h.cell 1, h.cell 2, h.cell 3, h.cell 4, h.cell 5, h.cell 6, h.cell 7, h.cell 8, h.cell 9, h.cell 10, h.cell 11, h.cell 12, h.cell 14⟩
end

theorem fits_ok {w : World} {b : Nat} {s : Fr} (h : Blk w b s) (n : Int) (str : ByteArray) (h1 : 0 ≤ s.ps) (h2 : s.ps ≤ 100000) (h3 : 0 ≤ s.ho) (h4 : s.ho ≤ 100000) (hn : n ≤ s.ho - s.ps) :
    Calls Ybaf.prog 32 #[.pointer (some ⟨b, 3, none⟩), .int .i64 n, .string str] w fun e w' => e = .returned .nilIface ∧ ∃ m, w' = w.drewN m := by
  obtain ⟨c0, c1, c2, c3, c4, c5, c6, c7, c8, c9, c10, c11, c12, c14⟩ := h.cs
  have hd : decide (s.ho - s.ps < n) = false := by simp; omega
  go_enter Ybaf.func32, Ybaf.ntmps32
  go_wp2_with fail
  go_quiet (fail)
  go_wp2_with fail
  go_ret
  exact ⟨rfl, _, rfl⟩

theorem expect_ok {w : World} {b : Nat} {s : Fr} (h : Blk w b s) (st n : Int) (str : ByteArray) (h1 : 0 ≤ s.ps) (h2 : s.ps ≤ 100000) (h3 : 0 ≤ s.ho) (h4 : s.ho ≤ 100000) (hn : n ≤ s.ho - s.ps) :
    Calls Ybaf.prog 27 #[.pointer (some ⟨b, 3, none⟩), .int .u8 st, .int .i64 n, .string str] w fun e w' => e = .returned .nilIface ∧ Blk w' b { s with st := st, lf := n, n := 0 } ∧ G b w w' := by
  have hf := fits_ok h n str h1 h2 h3 h4 hn
  obtain ⟨c0, c1, c2, c3, c4, c5, c6, c7, c8, c9, c10, c11, c12, c14⟩ := h.cs
  have f3 := h.free 3
  have f6 := h.free 6
  have f7 := h.free 7
  go_enter Ybaf.func27, Ybaf.ntmps27
  go_wp2_with (go_at_call 32; refine hf.mono ?_; rintro e w' ⟨rfl, m, rfl⟩)
  go_ret
  exact ⟨rfl, (((h.drewN m).set3 st).set6 n).set7 0, ((((G.refl b w).drewN m).set 3 _).set 6 _).set 7 _⟩

theorem number_ok (st : Int) (w : World) (hs : 0 ≤ st) (hs2 : st ≤ 17) : Calls Ybaf.prog 23 #[.int .u8 st] w fun e w' => e = .returned (.bool (!(st == 3 || st == 5 || st == 9 || st == 13 || st == 16))) ∧ w' = w := by
  have : st = 0 ∨ st = 1 ∨ st = 2 ∨ st = 3 ∨ st = 4 ∨ st = 5 ∨ st = 6 ∨ st = 7 ∨ st = 8 ∨ st = 9 ∨ st = 10 ∨ st = 11 ∨ st = 12 ∨ st = 13 ∨ st = 14 ∨ st = 15 ∨ st = 16 ∨ st = 17 := by omega
  rcases this with rfl | rfl | rfl | rfl | rfl | rfl | rfl | rfl | rfl | rfl | rfl | rfl | rfl | rfl | rfl | rfl | rfl | rfl
  all_goals
    go_enter Ybaf.func23, Ybaf.ntmps23
    go_wp2_with fail
    go_ret
    exact ⟨rfl, rfl⟩
end Go.Proofs.YbulkahqyFmt

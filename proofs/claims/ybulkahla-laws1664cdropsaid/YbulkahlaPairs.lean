import Derived.Test.YbulkahlaReset
namespace Go.Proofs.Ybulkahla
open Go.RowKit
set_option linter.unusedSimpArgs false
attribute [local go_sem] run_store_float

theorem Yba.infoN3 : (Yba.prog.info? 3).map (fun i => (i.zero, i.size, i.bytes)) = some (some (.int .i64 0), 1, 8) := by kernel_rfl
theorem Yba.infoN76 : (Yba.prog.info? 76).map (fun i => (i.zero, i.size, i.bytes)) = some (some (.slice none 0 0), 1, 24) := by kernel_rfl
theorem Yba.infoN4 : (Yba.prog.info? 4).map (fun i => (i.zero, i.size, i.bytes)) = some (some (.bool false), 1, 1) := by kernel_rfl

def pDst : Nat → Tmp
  | 5 => 16
  | 9 => 20
  | 13 => 24
  | 15 => 26
  | 21 => 32
  | _ => 34
def pCnt (m nS nR : Nat) : Nat → Nat
  | 5 => m
  | 9 => m
  | 13 => m
  | 15 => nS
  | 21 => nR
  | _ => nS
def pObj (m nS nR : Nat) : Nat → Obj
  | 5 => .cells (madeCells #[.float .f64 0] m) 24
  | 9 => .cells (madeCells #[.int .i64 0] m) 3
  | 13 => .cells (madeCells #[.int .i64 0] m) 3
  | 15 => .cells (madeCells #[.slice none 0 0] nS) 76
  | 21 => .cells (madeCells #[.int .i64 0] nR) 3
  | _ => .cells (madeCells #[.bool false] nS) 4
theorem allIn {md : Region.Mode} {ops : Array Oper} {listed : Array Bool} {M : List Nat} (h : (M.all fun x => (Region.ready md ops listed).contains x) = true) : ∀ x ∈ M, x ∈ Region.ready md ops listed :=
  fun x hx => List.contains_iff_mem.1 (List.all_eq_true.1 h x hx)
theorem wpOp_abs {P : Program} {ops : Array Oper} {Q : Exit → Act → World → Prop} {i : Nat} {o : Oper} {K0 : Act → World → Prop} {a : Act} {w : World} (ho : ops[i]? = some o) (hg : o.guard = none) (h : ∀ K : Act → World → Prop, (∀ a w, K0 a w → K a w) → o.wp P a w K Q) : wpOp P ops Q i K0 a w := by
  unfold wpOp
  rw [ho]
  have hw : Region.wanted o (yielded ops a.tmps) = true := by simp [Region.wanted, hg]
  simp only [hw, if_true]
  exact .inl (h K0 fun _ _ h => h)
theorem six {D : List (Nat × Nat)} {x0 x1 x2 x3 x4 x5 : Nat} (h : D.map (·.1) = [x0, x1, x2, x3, x4, x5]) : ∃ b0 b1 b2 b3 b4 b5, D = [(x0, b0), (x1, b1), (x2, b2), (x3, b3), (x4, b4), (x5, b5)] := by
  match D, h with
  | [(y0, b0), (y1, b1), (y2, b2), (y3, b3), (y4, b4), (y5, b5)], h =>
    simp only [List.map_cons, List.map_nil, List.cons.injEq, and_true] at h
    obtain ⟨rfl, rfl, rfl, rfl, rfl, rfl⟩ := h
    exact ⟨b0, b1, b2, b3, b4, b5, rfl⟩

theorem Prs.congr_at {wN w : World} {bn nS nR B : Nat} {k : Bk} {cs : Nat → Value} {L : Nat → List Int} {at_ at' : Nat → Int} {lo : Nat → Bool} {cnt : Int} (h : Prs wN w bn nS nR B k cs L at_ lo cnt) (he : ∀ i, i < nR → at_ i = at' i) : Prs wN w bn nS nR B k cs L at' lo cnt :=
  ⟨h.lay, h.bel, h.bsz, h.p, h.ms, h.inn, h.bck, h.car, h.at_.congr fun i hi => by rw [he i hi], h.lo, h.fam⟩
theorem minus_step (j i : Nat) : upd (fun i => if i < j then (-1 : Int) else 0) j (-1) i = if i < j + 1 then -1 else 0 := by
  by_cases h : i = j
  · subst h; simp [upd]
  · rw [upd_other _ _ h]
    have : i < j ↔ i < j + 1 := by omega
    simp [this]
theorem pairs_made {w w1 : World} {bn nS nR m b0 b1 b2 b3 b4 b5 : Nat} (hm : nS * nS = m) (h : Made w.drew (pObj m nS nR) [(5, b0), (9, b1), (13, b2), (15, b3), (21, b4), (23, b5)] w1) :
    Prs w (w1.alloc (.cells #[.pointer (some ⟨bn, 0, none⟩), .int .i64 nS, .slice (some ⟨b0, 0, none⟩) m m, .slice (some ⟨b1, 0, none⟩) m m, .slice (some ⟨b2, 0, none⟩) m m, .slice (some ⟨b3, 0, none⟩) nS nS, .int .i64 0, .slice (some ⟨b4, 0, none⟩) nR nR, .slice (some ⟨b5, 0, none⟩) nS nS, .slice none 0 0] 79)) bn nS nR (w1.heap.size + 1) ⟨w1.heap.size, b0, b1, b2, b3, b4, b5⟩ (fun _ => nilV) (fun _ => []) (fun _ => 0) (fun _ => false) 0 := by
  have hb : Below w.heap.size w w1 := ⟨h.bel.os, h.bel.tape, h.bel.output, h.bel.size, h.bel.block⟩
  have ha := h.at_
  simp only [List.mem_cons, List.not_mem_nil, or_false, forall_eq_or_imp, forall_eq] at ha
  obtain ⟨a0, a1, a2, a3, a4, a5⟩ := ha
  have hr : ∀ b o, w1.heap[b]? = some o → b < w1.heap.size := fun b o hb => heap_lt hb
  have l0 := heap_lt a0.2
  have l1 := heap_lt a1.2
  have l2 := heap_lt a2.2
  have l3 := heap_lt a3.2
  have l4 := heap_lt a4.2
  have l5 := heap_lt a5.2
  have hnd := h.apart
  simp only [List.map_cons, List.map_nil, List.nodup_cons, List.mem_cons, List.not_mem_nil, or_false, not_or, not_false_eq_true, List.nodup_nil, and_true] at hnd
  have hsz : w.heap.size ≤ w1.heap.size := hb.size
  have hdr : w.drew.heap.size = w.heap.size := rfl
  rw [hdr] at a0 a1 a2 a3 a4 a5
  refine ⟨⟨?_, ?_⟩, hb.alloc hsz _, by simp, (by subst hm; exact heap_alloc_new' rfl), ⟨fun _ => 0, ?_⟩, ⟨fun _ => 0, ?_⟩, ⟨fun _ => 0, ?_⟩, ?_, ?_, ?_, fam_nil _ _ _ _ _⟩
  · simp only [Bk.list, List.mem_cons, List.not_mem_nil, or_false, forall_eq_or_imp, forall_eq]
    omega
  · simp only [Bk.list, List.nodup_cons, List.mem_cons, List.not_mem_nil, or_false, not_or, not_false_eq_true, List.nodup_nil, and_true]
    omega
  · rw [hm]; exact (made_row a0.2).alloc _
  · rw [hm]; exact (made_row a1.2).alloc _
  · rw [hm]; exact (made_row a2.2).alloc _
  · exact (made_row a3.2).alloc _
  · exact (made_row a4.2).alloc _
  · exact (made_row a5.2).alloc _

set_option maxHeartbeats 2000000 in
set_option maxRecDepth 100000 in
theorem newPairs_any {bn bd bt br cr bm cm nS nG nR : Nat} (w : World) (h : NetAt w bn bd bt br cr bm cm nS nG nR) (h1S : 1 ≤ nS) (hS : nS ≤ 4) (hR : nR ≤ 12) :
    Calls Yba.prog 21 #[.pointer (some ⟨bn, 0, none⟩)] w fun e w' => ∃ B k, e = .returned (.pointer (some ⟨k.p, 0, none⟩)) ∧ Prs w w' bn nS nR B k (fun _ => nilV) (fun _ => []) (fun _ => -1) (fun _ => false) 0 := by
  obtain ⟨m, hm⟩ : ∃ m, nS * nS = m := ⟨_, rfl⟩
  have hmi : (nS : Int) * nS = m := by rw [← hm]; simp
  have hSS : m ≤ 16 := by rw [← hm]; exact Nat.mul_le_mul hS hS
  have k1 := run_make_row' (P := Yba.prog) 75 24 _ 8 Yba.underlying75 Yba.infoN24 rfl .i64 .i64 m (by omega) (by omega)
  have k2 := run_make_row' (P := Yba.prog) 76 3 _ 8 Yba.underlying76 Yba.infoN3 rfl .i64 .i64 m (by omega) (by omega)
  have k3 := run_make_row' (P := Yba.prog) 77 76 _ 24 Yba.underlying77 Yba.infoN76 rfl .i64 .i64 nS (by omega) (by omega)
  have k4 := run_make_row' (P := Yba.prog) 76 3 _ 8 Yba.underlying76 Yba.infoN3 rfl .i64 .i64 nR (by omega) (by omega)
  have k5 := run_make_row' (P := Yba.prog) 72 4 _ 1 Yba.underlying72 Yba.infoN4 rfl .i64 .i64 nS (by omega) (by omega)
  have hwm : IntKind.i64.wrap (m : Int) = m := by simp [IntKind.wrap, IntKind.bits, IntKind.signed]; omega
  have c1 := h.dem
  have c4 := h.rts
  go_enter Yba.func21, Yba.ntmps21
  go_upto_region 2 with fail
  refine wp_region_held (S := fun w' => w'.cell? ⟨bn, 4, none⟩ = some (.slice (some ⟨br, 0, none⟩) nR cr)) rfl ?_
  show wpAnyH _ _ _ _ _ 27 (Array.replicate 27 false) _ _
  refine wpAnyH_take (i := 0) (v := ?_) rfl (by kernel_rfl) (by kernel_rfl) (by kernel_rfl) (fun _ _ _ h => h) (Or.inl ⟨by rfl, ?_⟩) c4 ?_
  rotate_left
  · intro w' hw'; go_simp; try with_reducible rfl
  show wpAnyH _ _ _ _ _ 26 _ (Act.put _ (some 11) _) _
  refine wpAnyH_take (i := 1) (v := ?_) rfl (by kernel_rfl) (by kernel_rfl) (by kernel_rfl) (fun _ _ _ h => h) (Or.inl ⟨by rfl, ?_⟩) c4 ?_
  rotate_left
  · intro w' hw'; go_simp; try with_reducible rfl
  show wpAnyH _ _ _ _ _ 25 _ (Act.put _ (some 12) _) _
  refine wpAnyH_take (i := 2) (v := ?_) rfl (by kernel_rfl) (by kernel_rfl) (by kernel_rfl) (fun _ _ _ h => h) (Or.inl ⟨by rfl, ?_⟩) c4 ?_
  rotate_left
  · intro w' hw'; go_simp; try with_reducible rfl
  show wpAnyH _ _ _ _ _ 24 _ (Act.put _ (some 13) _) _
  refine wpAnyH_take (i := 3) (v := ?_) rfl (by kernel_rfl) (by kernel_rfl) (by kernel_rfl) (fun _ _ _ h => h) (Or.inl ⟨by rfl, ?_⟩) c4 ?_
  rotate_left
  · intro w' hw'; go_simp; try with_reducible rfl
  show wpAnyH _ _ _ _ _ 23 _ (Act.put _ (some 14) _) _
  refine wpAnyH_take (i := 4) (v := ?_) rfl (by kernel_rfl) (by kernel_rfl) (by kernel_rfl) (fun _ _ _ h => h) (Or.inl ⟨by rfl, ?_⟩) c4 ?_
  rotate_left
  · intro w' hw'; go_simp; try with_reducible rfl
  show wpAnyH _ _ _ _ _ 22 _ (Act.put _ (some 15) _) _
  refine wpAnyH_take (i := 6) (v := ?_) rfl (by kernel_rfl) (by kernel_rfl) (by kernel_rfl) (fun _ _ _ h => h) (Or.inl ⟨by rfl, ?_⟩) c4 ?_
  rotate_left
  · intro w' hw'; go_simp; try with_reducible rfl
  show wpAnyH _ _ _ _ _ 21 _ (Act.put _ (some 17) _) _
  refine wpAnyH_take (i := 7) (v := ?_) rfl (by kernel_rfl) (by kernel_rfl) (by kernel_rfl) (fun _ _ _ h => h) (Or.inl ⟨by rfl, ?_⟩) c4 ?_
  rotate_left
  · intro w' hw'; go_simp; try with_reducible rfl
  show wpAnyH _ _ _ _ _ 20 _ (Act.put _ (some 18) _) _
  refine wpAnyH_take (i := 8) (v := ?_) rfl (by kernel_rfl) (by kernel_rfl) (by kernel_rfl) (fun _ _ _ h => h) (Or.inl ⟨by rfl, ?_⟩) c4 ?_
  rotate_left
  · intro w' hw'; go_simp; try with_reducible rfl
  show wpAnyH _ _ _ _ _ 19 _ (Act.put _ (some 19) _) _
  refine wpAnyH_take (i := 10) (v := ?_) rfl (by kernel_rfl) (by kernel_rfl) (by kernel_rfl) (fun _ _ _ h => h) (Or.inl ⟨by rfl, ?_⟩) c4 ?_
  rotate_left
  · intro w' hw'; go_simp; try with_reducible rfl
  show wpAnyH _ _ _ _ _ 18 _ (Act.put _ (some 21) _) _
  refine wpAnyH_take (i := 11) (v := ?_) rfl (by kernel_rfl) (by kernel_rfl) (by kernel_rfl) (fun _ _ _ h => h) (Or.inl ⟨by rfl, ?_⟩) c4 ?_
  rotate_left
  · intro w' hw'; go_simp; try with_reducible rfl
  show wpAnyH _ _ _ _ _ 17 _ (Act.put _ (some 22) _) _
  refine wpAnyH_take (i := 12) (v := ?_) rfl (by kernel_rfl) (by kernel_rfl) (by kernel_rfl) (fun _ _ _ h => h) (Or.inl ⟨by rfl, ?_⟩) c4 ?_
  rotate_left
  · intro w' hw'; go_simp; try with_reducible rfl
  show wpAnyH _ _ _ _ _ 16 _ (Act.put _ (some 23) _) _
  refine wpAnyH_take (i := 14) (v := ?_) rfl (by kernel_rfl) (by kernel_rfl) (by kernel_rfl) (fun _ _ _ h => h) (Or.inl ⟨by rfl, ?_⟩) c4 ?_
  rotate_left
  · intro w' hw'; go_simp; try with_reducible rfl
  show wpAnyH _ _ _ _ _ 15 _ (Act.put _ (some 25) _) _
  refine wpAnyH_take (i := 16) (v := ?_) rfl (by kernel_rfl) (by kernel_rfl) (by kernel_rfl) (fun _ _ _ h => h) (Or.inl ⟨by rfl, ?_⟩) c4 ?_
  rotate_left
  · intro w' hw'; go_simp; try with_reducible rfl
  show wpAnyH _ _ _ _ _ 14 _ (Act.put _ (some 27) _) _
  refine wpAnyH_take (i := 17) (v := ?_) rfl (by kernel_rfl) (by kernel_rfl) (by kernel_rfl) (fun _ _ _ h => h) (Or.inl ⟨by rfl, ?_⟩) c4 ?_
  rotate_left
  · intro w' hw'; go_simp; try with_reducible rfl
  show wpAnyH _ _ _ _ _ 13 _ (Act.put _ (some 28) _) _
  refine wpAnyH_take (i := 18) (v := ?_) rfl (by kernel_rfl) (by kernel_rfl) (by kernel_rfl) (fun _ _ _ h => h) (Or.inl ⟨by rfl, ?_⟩) c4 ?_
  rotate_left
  · intro w' hw'; go_simp; try with_reducible rfl
  show wpAnyH _ _ _ _ _ 12 _ (Act.put _ (some 29) _) _
  refine wpAnyH_take (i := 19) (v := ?_) rfl (by kernel_rfl) (by kernel_rfl) (by kernel_rfl) (fun _ _ _ h => h) (Or.inl ⟨by rfl, ?_⟩) c4 ?_
  rotate_left
  · intro w' hw'; go_simp; try with_reducible rfl
  show wpAnyH _ _ _ _ _ 11 _ (Act.put _ (some 30) _) _
  refine wpAnyH_take (i := 20) (v := ?_) rfl (by kernel_rfl) (by kernel_rfl) (by kernel_rfl) (fun _ _ _ h => h) (Or.inl ⟨by rfl, ?_⟩) c4 ?_
  rotate_left
  · intro w' hw'; go_simp; try with_reducible rfl
  show wpAnyH _ _ _ _ _ 10 _ (Act.put _ (some 31) _) _
  refine wpAnyH_take (i := 22) (v := ?_) rfl (by kernel_rfl) (by kernel_rfl) (by kernel_rfl) (fun _ _ _ h => h) (Or.inl ⟨by rfl, ?_⟩) c4 ?_
  rotate_left
  · intro w' hw'; go_simp; try with_reducible rfl
  show wpAnyH _ _ _ _ _ 9 _ (Act.put _ (some 33) _) _
  simp only [Act.put, List.setIfInBounds_toArray, List.set_cons_zero, List.set_cons_succ]
  show wpAnyH _ _ _ _ _ ([5, 9, 13, 15, 21, 23].length + 3) _ _ _
  refine makes_any _ _ _ [5, 9, 13, 15, 21, 23] pDst (pCnt m nS nR) (pObj m nS nR) 3 (fun w' o hw' => ?_) c4 (by decide) (by decide) (allIn (by kernel_rfl)) (waitsB_spec (by kernel_rfl)) (fun x hx => ?_) (fun D w1 hD hmd hs1 => ?_)
  · show (w'.alloc o).cell? _ = _
    rw [World.cell?_alloc_past _ _ _ (World.block_lt_of_cell? _ _ hw')]
    exact hw'
  · have hne : ∀ {t : Tmp}, (∀ x ∈ [5, 9, 13, 15, 21, 23], pDst x ≠ t) → ∀ D : List (Tmp × Value), (∀ x ∈ D, ∃ m' ∈ [5, 9, 13, 15, 21, 23], x.1 = pDst m') → ∀ y ∈ D, y.1 ≠ t := fun ht D hD y hy => by
      obtain ⟨m', h1, h2⟩ := hD y hy
      rw [h2]
      exact ht m' h1
    simp only [List.mem_cons, List.not_mem_nil, or_false] at hx
    rcases hx with rfl | rfl | rfl | rfl | rfl | rfl
    · refine ⟨_, rfl, rfl, fun D hD => ?_⟩
      exact make_run (x := 15) (n := m) (ob := .cells (madeCells #[.float .f64 0] m) 24) rfl rfl rfl k1 D (hne (by decide) D hD)
    · refine ⟨_, rfl, rfl, fun D hD => ?_⟩
      exact make_run (x := 19) (n := m) (ob := .cells (madeCells #[.int .i64 0] m) 3) rfl rfl rfl k2 D (hne (by decide) D hD)
    · refine ⟨_, rfl, rfl, fun D hD => ?_⟩
      exact make_run (x := 23) (n := m) (ob := .cells (madeCells #[.int .i64 0] m) 3) rfl rfl rfl k2 D (hne (by decide) D hD)
    · refine ⟨_, rfl, rfl, fun D hD => ?_⟩
      exact make_run (x := 25) (n := nS) (ob := .cells (madeCells #[.slice none 0 0] nS) 76) rfl rfl rfl k3 D (hne (by decide) D hD)
    · refine ⟨_, rfl, rfl, fun D hD => ?_⟩
      exact make_run (x := 31) (n := nR) (ob := .cells (madeCells #[.int .i64 0] nR) 3) rfl rfl rfl k4 D (hne (by decide) D hD)
    · refine ⟨_, rfl, rfl, fun D hD => ?_⟩
      exact make_run (x := 33) (n := nS) (ob := .cells (madeCells #[.bool false] nS) 4) rfl rfl rfl k5 D (hne (by decide) D hD)
  · obtain ⟨b0, b1, b2, b3, b4, b5, rfl⟩ := six hD
    clear hD k1 k2 k3 k4 k5
    simp only [puts, putD, madeVal, pDst, pCnt, List.map_cons, List.map_nil, List.foldl_cons, List.foldl_nil, Act.put, List.setIfInBounds_toArray, List.set_cons_zero, List.set_cons_succ]
    refine wpAnyH_take (i := 24) (v := ?_) rfl (by kernel_rfl) (by kernel_rfl) (by kernel_rfl) (fun _ _ _ h => h) (Or.inl ⟨by rfl, ?_⟩) hs1 ?_
    rotate_left
    · intro w' hw'; go_simp; try with_reducible rfl
    show wpAnyH _ _ _ _ _ 2 _ (Act.put _ (some 35) _) _
    simp only [Act.put, List.setIfInBounds_toArray, List.set_cons_zero, List.set_cons_succ]
    refine wpAnyH_all (rs := [25]) (by kernel_rfl) (by simp) (fun i hi => ?_)
    obtain rfl : i = 25 := by simpa using hi
    refine wpOp_abs rfl rfl (fun K hK => ?_)
    go_simp
    refine hK _ _ ⟨?_, ?_⟩
    · rw [World.cell?_alloc_past _ _ _ (World.block_lt_of_cell? _ _ hs1)]
      exact hs1
    clear hK K
    refine wpAnyH_take (i := 26) (v := ?_) rfl (by kernel_rfl) (by kernel_rfl) (by kernel_rfl) (fun _ _ _ h => h) (Or.inl ⟨by rfl, ?_⟩) (by rw [World.cell?_alloc_past _ _ _ (World.block_lt_of_cell? _ _ hs1)]; exact hs1) ?_
    rotate_left
    · intro w' hw'; go_simp; try with_reducible rfl
    refine wpAnyH_done (by kernel_rfl) ?_ _
    show Exit.then _ _ Exit.normal (Act.put _ (some 4) _) _
    simp only [Act.put, List.setIfInBounds_toArray, List.set_cons_zero, List.set_cons_succ]
    have hp0 := pairs_made (bn := bn) (nR := nR) hm hmd
    clear hmd hs1
    generalize w1.alloc (.cells #[.pointer (some ⟨bn, 0, none⟩), .int .i64 nS, .slice (some ⟨b0, 0, none⟩) m m, .slice (some ⟨b1, 0, none⟩) m m, .slice (some ⟨b2, 0, none⟩) m m, .slice (some ⟨b3, 0, none⟩) nS nS, .int .i64 0, .slice (some ⟨b4, 0, none⟩) nR nR, .slice (some ⟨b5, 0, none⟩) nS nS, .slice none 0 0] 79) = w2 at *
    generalize w1.heap.size = bp at *
    obtain ⟨p0, p1, p2, p3, p4, p5, p6, p7, p8, f6⟩ := hp0.pc
    simp only at p0 p1 p2 p3 p4 p5 p6 p7 p8 f6
    go_wp2_with fail
    go_loopw [42] (fun i wr => ∃ j : Nat, j ≤ nR ∧ i = .int .i64 j ∧ Prs w wr bn nS nR (bp + 1) ⟨bp, b0, b1, b2, b3, b4, b5⟩ (fun _ => nilV) (fun _ => []) (fun i => if i < j then -1 else 0) (fun _ => false) 0) (fun i _ => nR - (intOf i).toNat)
    case atStart => exact ⟨0, by omega, rfl, by simpa using hp0⟩
    case round =>
      obtain ⟨j, hj, rfl, hr⟩ := hrel
      clear p0 p1 p2 p3 p4 p5 p6 p7 p8 f6 hp0 c1 c4
      obtain ⟨p0, p1, p2, p3, p4, p5, p6, p7, p8, f6⟩ := hr.pc
      simp only at p0 p1 p2 p3 p4 p5 p6 p7 p8 f6
      by_cases hlt : j < nR
      · have c1 := hr.at_.cell hlt
        have c2 := hr.at_.free j
        simp only at c1 c2
        have hr2 := (hr.set_at j (-1)).congr_at (at' := fun i => if i < j + 1 then -1 else 0) (fun i _ => minus_step j i)
        go_wp2_with fail
        go_roundw
        case rel => exact ⟨j + 1, by omega, by simp, hr2⟩
        case measure => simp [intOf]; omega
      · have hr2 := hr.congr_at (at' := fun _ => -1) (fun i hi => by simp; omega)
        clear hr
        go_wp2_with (go_at_call 40; refine (reset_any _ hr2 h1S hS).mono ?_; rintro e w3 ⟨rfl, hr3⟩)
        go_ret
        exact ⟨bp + 1, ⟨bp, b0, b1, b2, b3, b4, b5⟩, rfl, hr3⟩
end Go.Proofs.Ybulkahla

import Derived.Test.YbulkahlaPrs
import Derived.Deep.RegionHeld3
namespace Go.Proofs.Ybulkahla
open Go.RowKit
set_option linter.unusedSimpArgs false
attribute [local go_sem] run_store_float

theorem Row.clear {b n : Nat} {t : TypeId} {z : Value} : ∀ (m : Nat) {w : World} (o : Nat), Row w b n t (fun _ => z) → Row (w.setCells b o (List.replicate m z)) b n t (fun _ => z)
  | 0, _, _, h => h
  | m + 1, w, o, h => by
    show Row ((w.setCell ⟨b, o, none⟩ z).setCells b (o + 1) (List.replicate m z)) b n t _
    exact Row.clear m (o + 1) ((h.set (k := o) z).congr fun j _ => by unfold upd; split <;> rfl)
theorem heap_setCells_other {b : Nat} : ∀ (vs : List Value) {w : World} (o : Nat) {x : Nat}, x ≠ b → (w.setCells b o vs).heap[x]? = w.heap[x]?
  | [], _, _, _, _ => rfl
  | v :: vs, w, o, x, h => by
    show ((w.setCell ⟨b, o, none⟩ v).setCells b (o + 1) vs).heap[x]? = _
    rw [heap_setCells_other vs (o + 1) h]
    exact heap_set_other w _ _ h

theorem upd_const {α : Type} (z : α) (i : Nat) : upd (fun _ => z) i z = fun _ => z := by funext j; unfold upd; split <;> rfl
theorem zero4 (w : World) : (zeroValue 4).run Yba.prog w = .ok (.bool false) w := by kernel_rfl
theorem size_setCells {b : Nat} : ∀ (vs : List Value) {w : World} (o : Nat), (w.setCells b o vs).heap.size = w.heap.size
  | [], _, _ => rfl
  | v :: vs, w, o => by
    show ((w.setCell ⟨b, o, none⟩ v).setCells b (o + 1) vs).heap.size = _
    rw [size_setCells vs (o + 1)]
    simp [World.setCell]
theorem setCells_same {b : Nat} : ∀ (vs : List Value) {w : World} (o : Nat), (w.setCells b o vs).os = w.os ∧ (w.setCells b o vs).tape = w.tape ∧ (w.setCells b o vs).output = w.output
  | [], _, _ => ⟨rfl, rfl, rfl⟩
  | v :: vs, w, o => setCells_same vs (w := w.setCell ⟨b, o, none⟩ v) (o + 1)
theorem Prs.cleared {wN w : World} {bn nS nR B : Nat} {k : Bk} {cs : Nat → Value} {L : Nat → List Int} {at_ : Nat → Int} {cnt : Int} (h : Prs wN w bn nS nR B k cs L at_ (fun _ => false) cnt) (m : Nat) :
    Prs wN (w.setCells k.lo 0 (List.replicate m (.bool false))) bn nS nR B k cs L at_ (fun _ => false) cnt := by
  obtain ⟨n1, n2, n3, n4, n5, n6, n7, n8, n9, n10, n11, n12, n13, n14, n15, n16, n17, n18, n19, n20, n21⟩ := h.lay.ne
  obtain ⟨b1, b2, b3, b4, b5, b6, b7⟩ := h.lay.bd
  obtain ⟨e1, e2, e3⟩ := setCells_same (b := k.lo) (List.replicate m (.bool false)) (w := w) 0
  have hx : ∀ {x : Nat}, x ≠ k.lo → (w.setCells k.lo 0 (List.replicate m (.bool false))).heap[x]? = w.heap[x]? := fun hx => heap_setCells_other _ 0 hx
  refine ⟨h.lay, ⟨e1.trans h.bel.os, e2.trans h.bel.tape, e3.trans h.bel.output, by rw [size_setCells]; exact h.bel.size, fun x hxl => (hx (by omega)).trans (h.bel.block x hxl)⟩, by rw [size_setCells]; exact h.bsz, (hx n6).trans h.p,
    let ⟨f, hf⟩ := h.ms; ⟨f, hf.of_block (hx n11)⟩, let ⟨f, hf⟩ := h.inn; ⟨f, hf.of_block (hx n15)⟩, let ⟨f, hf⟩ := h.bck; ⟨f, hf.of_block (hx n18)⟩, h.car.of_block (hx n20), h.at_.of_block (hx n21), Row.clear m 0 h.lo,
    h.fam.of_block fun s g hs hg => hx (by have := (h.fam.lt hs hg).1; omega)⟩

set_option maxHeartbeats 2000000 in
set_option maxRecDepth 100000 in
theorem reset_any {wN : World} {bn nS nR B : Nat} {k : Bk} {at_ : Nat → Int} {cnt : Int} (w : World) (h : Prs wN w bn nS nR B k (fun _ => nilV) (fun _ => []) at_ (fun _ => false) cnt) (h1S : 1 ≤ nS) (hS : nS ≤ 4) :
    Calls Yba.prog 40 #[.pointer (some ⟨k.p, 0, none⟩)] w fun e w' => e = .returned (.tuple #[]) ∧ Prs wN w' bn nS nR B k (fun _ => nilV) (fun _ => []) at_ (fun _ => false) 0 := by
  obtain ⟨n1, n2, n3, n4, n5, n6, n7, n8, n9, n10, n11, n12, n13, n14, n15, n16, n17, n18, n19, n20, n21⟩ := h.lay.ne
  have hSS : nS * nS ≤ 16 := Nat.mul_le_mul hS hS
  obtain ⟨p0, p1, p2, p3, p4, p5, p6, p7, p8, f6⟩ := h.pc
  obtain ⟨m, hm⟩ : ∃ m, nS * nS = m := ⟨_, rfl⟩
  have hmi : (nS : Int) * nS = m := by rw [← hm]; simp
  rw [hm] at hSS p2
  go_enter Yba.func40, Yba.ntmps40
  go_wp2_with fail
  go_loopw [12] (fun i wr => ∃ j : Nat, j ≤ m ∧ i = .int .i64 j ∧ Prs wN wr bn nS nR B k (fun _ => nilV) (fun _ => []) at_ (fun _ => false) cnt) (fun i _ => m - (intOf i).toNat)
  case atStart => exact ⟨0, by omega, rfl, h⟩
  case round =>
    obtain ⟨j, hj, rfl, hr⟩ := hrel
    clear p0 p1 p2 p3 p4 p5 p6 p7 p8 f6 h
    obtain ⟨p0, p1, p2, p3, p4, p5, p6, p7, p8, f6⟩ := hr.pc
    rw [hm] at p2
    by_cases hlt : j < m
    · obtain ⟨f, hf⟩ := hr.ms
      have c1 := hf.cell (i := j) (by omega)
      have c2 := hf.free j
      have l1 := hf.lt
      go_upto_region 3 with fail
      go_region_held3 (fun w' => w'.cell? ⟨k.p, 2, none⟩ = some (slv k.ms m)) (first | assumption | (simp [go_sem, *])) (first | (go_at_call 10; refine (inf_any _).mono ?_; rintro e w' ⟨rfl, rfl⟩))
      have hr2 := (hr.set_ms j infB).drew
      clear hf c1 c2 l1 hr
      go_wp2_with fail
      go_roundw
      case rel => exact ⟨j + 1, by omega, by simp, hr2⟩
      case measure => simp [intOf]; omega
    · obtain ⟨w1, rfl⟩ : ∃ w1, w1 = wr := ⟨wr, rfl⟩
      go_wp2_with fail
      go_loopw [28] (fun i wr => ∃ s : Nat, s ≤ nS ∧ i = .int .i64 s ∧ Prs wN wr bn nS nR B k (fun _ => nilV) (fun _ => []) at_ (fun _ => false) cnt) (fun i _ => nS - (intOf i).toNat)
      case atStart => exact ⟨0, by omega, rfl, hr⟩
      case round =>
        obtain ⟨s, hs, rfl, hr3⟩ := hrel
        clear p0 p1 p2 p3 p4 p5 p6 p7 p8 f6 hr
        obtain ⟨p0, p1, p2, p3, p4, p5, p6, p7, p8, f6⟩ := hr3.pc
        by_cases hlt2 : s < nS
        · have c1 := hr3.car.cell hlt2
          have c2 := hr3.car.free s
          have l1 := hr3.car.lt
          obtain ⟨w2, rfl⟩ : ∃ w2, w2 = wr := ⟨wr, rfl⟩
          go_wp2_with fail
          go_loopw [35] (fun i wr => i = .int .i64 0 ∧ wr = w2) (fun _ _ => 0)
          case atStart => exact ⟨rfl, rfl⟩
          case round =>
            obtain ⟨rfl, rfl⟩ := hrel
            go_upto_region 13 with fail
            go_region
            have hr4 := (hr3.set_car s (v := nilV) (L' := fun _ => []) (by rw [upd_const]; exact hr3.fam)).drew
            rw [upd_const] at hr4
            clear c1 c2 l1 hr3 p0 p1 p2 p3 p4 p5 p6 p7 p8 f6
            go_wp2_with fail
            go_roundw
            case rel => exact ⟨s + 1, by omega, by simp, hr4⟩
            case measure => simp [intOf]; omega
        · have hr4 := hr3.set_cnt 0
          have hcl : ∀ ty, (Builtin.clear_ #[72] ty #[slv k.lo nS]).run Yba.prog (wr.setCell ⟨k.p, 6, none⟩ (.int .i64 0)) = .ok (.tuple #[]) ((wr.setCell ⟨k.p, 6, none⟩ (.int .i64 0)).setCells k.lo 0 (List.replicate nS (.bool false))) :=
            fun ty => Lib.run_clear_slice _ 72 4 ty (.bool false) Yba.underlying72 zero4 rfl rfl k.lo 0 nS nS (by omega) (fun j hj => by rw [Nat.zero_add, hr4.lo.cell hj]; rfl) (fun j _ => hr4.lo.free _)
          have hr5 := hr4.cleared nS
          clear hr4
          go_wp2_with fail
          go_end0
          exact ⟨rfl, hr5⟩
end Go.Proofs.Ybulkahla

import Derived.Test.YbulkahlaMem
import Derived.Lib.LazyBuf
import Derived.WalkSmall
import Derived.Deep.QuietTactic
import Derived.BigQuiet
namespace Go.Proofs.Ybulkahla
open Go.RowKit
set_option linter.unusedSimpArgs false
attribute [local go_sem] run_store_float call31 call42 call43
attribute [local go_sem ↓] run_fadd run_fsub run_fmul run_fquo run_fmax run_fmin run_fsqrt

theorem Yba.info112 : (Yba.prog.info? 112).map (fun i => (i.zero, i.size, i.bytes)) = some (some (.agg #[.int .i64 0, .int .i64 0, .float .f64 0, .int .i64 0]), 4, 32) := by kernel_rfl
theorem Yba.infoL32 : (Yba.prog.info? 32).map (fun i => (i.zero, i.size, i.bytes)) = some (some (.agg #[.float .f64 0, .float .f64 0, .float .f64 0, .int .i64 0, .int .i64 0]), 5, 40) := by kernel_rfl

theorem lvl_one' (gs : List Lvl) : ∀ u ∈ lvlsCells gs, u.oneCell' = true := by
  intro u hu
  simp only [lvlsCells, List.mem_flatMap] at hu
  obtain ⟨g, _, hu⟩ := hu
  simp [lvlCells] at hu
  rcases hu with rfl | rfl | rfl | rfl | rfl <;> rfl

theorem lvls_length (gs : List Lvl) : (lvlsCells gs).length = gs.length * 5 := by
  induction gs with
  | nil => rfl
  | cons g gs ih => simp [lvlsCells, List.flatMap_cons, lvlCells] at ih ⊢; omega

set_option maxHeartbeats 1000000 in
set_option maxRecDepth 100000 in
theorem clone_lvl {B0 g n cap : Nat} {gs : List Lvl} (w : World) (h : w.ownsRow B0 32 5 (.slice (some ⟨g, 0, none⟩) n cap) n (lvlsCells gs)) (hn : 0 < n) (hn2 : n ≤ 5000) :
    Calls Yba.prog 53 #[.slice (some ⟨g, 0, none⟩) n cap] w fun e w' => ∃ g' cap', e = .returned (.slice (some ⟨g', 0, none⟩) n cap') ∧ w'.ownsRow w.heap.size 32 5 (.slice (some ⟨g', 0, none⟩) n cap') n (lvlsCells gs) ∧ Below w.heap.size w w' := by
  obtain ⟨i3, hi3, hz3, hs3, hb3⟩ := info_parts Yba.infoL32
  have hl : (lvlsCells gs).length = n * 5 := h.1
  have hgl : g < w.heap.size := (h.lt g rfl).2
  have hB0 : Below w.heap.size w (w.alloc (.cells #[] 32)) := bel_alloc (Below.refl _ _) _
  have hown3 : (w.alloc (.cells #[] 32)).ownsRow w.heap.size 32 5 (.slice (some ⟨w.heap.size, 0, none⟩) 0 0) 0 [] := World.ownsRow_made w #[] 0 (Nat.le_refl _) (by unfold maxLen; omega) rfl
  have hnl : ∀ w, (binOp .eql 33 (.slice (some ⟨g, 0, none⟩) n cap) (.slice none 0 0)).run Yba.prog w = .ok (.bool false) w := fun w => Go.run_eql_slice_nil w 33 32 _ _ _ Yba.underlying33
  go_enter Yba.func53, Yba.ntmps53
  go_wp2_with (at_builtin; refine wpList_append_lies _ rfl _ _ 33 rfl w.heap.size 32 i3 _ 5 40 Yba.underlying33 hi3 hz3 hs3 hb3 rfl (by decide) _ _ _ rfl hown3 ⟨g, 0, none⟩ n cap (lvlsCells gs) rfl ?c0 ?c1 ?c2 hn ?c3 ?c4 ?c5 _ rfl ?_)
  case c0 => exact hl
  case c1 =>
    intro j u hj
    have hjn : j < n * 5 := by have := (List.getElem?_eq_some_iff.1 hj).1; omega
    have e : (⟨g, 0, none⟩ : Addr).add j = ⟨g, j, none⟩ := by unfold Addr.add; split <;> simp_all
    rw [e, World.cell?_alloc_past _ _ _ hgl, h.cellAt j hjn]
    exact hj
  case c2 => exact lvl_one' gs
  case c3 => unfold maxLen; omega
  case c4 => omega
  case c5 => simp
  intro g1 cap1 w2 ho2 hg2 hat2 hlt2
  have hB2 : Below w.heap.size w w2 := hB0.grown hg2 (by simp) (fun k hk => by simp [Value.ownBlock] at hk; omega)
  clear hg2 hat2 hlt2 hown3 hB0 h
  go_wp2_with fail
  go_ret
  exact ⟨g1, cap1, by simp, by simpa using ho2, hB2⟩

set_option maxRecDepth 100000 in
theorem clone_nil (w : World) : Calls Yba.prog 53 #[.slice none 0 0] w fun e w' => e = .returned (.slice none 0 0) ∧ w' = w := by
  have hnl : ∀ w, (binOp .eql 33 (.slice none 0 0) (.slice none 0 0)).run Yba.prog w = .ok (.bool true) w := fun w => Go.run_eql_slice_nil w 33 32 _ _ _ Yba.underlying33
  go_enter Yba.func53, Yba.ntmps53
  go_wp2_with fail
  go_ret
  exact ⟨rfl, rfl⟩

/-- One run: first, last, latency (bits), probes. -/
abbrev Run := Nat × Nat × Nat × Int
def runCells (r : Run) : List Value := [.int .i64 r.1, .int .i64 r.2.1, .float .f64 r.2.2.1, .int .i64 r.2.2.2]
def runsCells (l : List Run) : List Value := l.flatMap runCells
theorem runsCells_snoc (l : List Run) (s : Run) : runsCells (l ++ [s]) = runsCells l ++ runCells s := by simp [runsCells]
theorem runs_length (gs : List Run) : (runsCells gs).length = gs.length * 4 := by
  induction gs with
  | nil => rfl
  | cons g gs ih => simp [runsCells, List.flatMap_cons, runCells] at ih ⊢; omega

def RunRow (w : World) (b : Nat) (l : List Run) : Prop :=
  ∀ i s, l[i]? = some s → w.cell? ⟨b, i * 4, none⟩ = some (.int .i64 s.1) ∧ w.cell? ⟨b, i * 4 + 1, none⟩ = some (.int .i64 s.2.1) ∧ w.cell? ⟨b, i * 4 + 2, none⟩ = some (.float .f64 s.2.2.1) ∧ w.cell? ⟨b, i * 4 + 3, none⟩ = some (.int .i64 s.2.2.2)

theorem runRow_of_owns {w : World} {base g n cap : Nat} {l : List Run} (h : w.ownsRow base 112 4 (.slice (some ⟨g, 0, none⟩) n cap) n (runsCells l)) (hn : n = l.length) : RunRow w g l := by
  subst hn
  intro i s hs
  have hi : i < l.length := (List.getElem?_eq_some_iff.1 hs).1
  have key : ∀ j, j < 4 → w.cell? ⟨g, i * 4 + j, none⟩ = (runCells s)[j]? := fun j hj => by
    rw [h.cellAt (i * 4 + j) (by omega)]
    exact flatMap_getElem? runCells 4 (fun _ => rfl) l i j s hs hj
  exact ⟨key 0 (by omega), key 1 (by omega), key 2 (by omega), key 3 (by omega)⟩

def lenV : Value → Nat
  | .slice _ n _ => n
  | _ => 0

def runFn (r : Run) (j : Nat) : Value := (runCells r).getD j (.int .i64 0)

def RunsOk (n : Nat) (rs : List Run) : Prop := ∀ r ∈ rs, r.2.1 < n


theorem ownsRow_drewN' {w : World} {base : Nat} {e : TypeId} {size : Nat} {v : Value} {n : Nat} {xs : List Value} (h : w.ownsRow base e size v n xs) (m : Nat) : (w.drewN m).ownsRow base e size v n xs := h
theorem snoc_form {α : Type} (l : List α) : l = [] ∨ ∃ l' x, l = l' ++ [x] := by
  rcases List.eq_nil_or_concat l with h | ⟨l', x, h⟩
  · exact .inl h
  · exact .inr ⟨l', x, by simpa using h⟩
theorem RunsOk.snoc {n : Nat} {rs : List Run} (h : RunsOk n rs) {r : Run} (hr : r.2.1 < n) : RunsOk n (rs ++ [r]) := by
  intro x hx
  rw [List.mem_append] at hx
  rcases hx with hx | hx
  · exact h x hx
  · rw [List.mem_singleton] at hx; subst hx; exact hr

theorem own_cap {w : World} {base : Nat} {e : TypeId} {size g n cap : Nat} {xs : List Value} (h : w.ownsRow base e size (.slice (some ⟨g, 0, none⟩) n cap) n xs) : n ≤ cap := by
  rcases h.2 with ⟨h', _⟩ | ⟨g', cap', cur, h', hb, hg, hnc, _⟩
  · cases h'
  · cases h'; exact hnc
theorem own_set {w : World} {base : Nat} {e : TypeId} {size : Nat} {v : Value} {n : Nat} {xs : List Value} (h : w.ownsRow base e size v n xs) {a : Addr} (ha : ∀ g, v.ownBlock = some g → g ≠ a.block) (u : Value) : (w.setCell a u).ownsRow base e size v n xs :=
  owns_of_block h fun g hg => heap_set_other w a u (ha g hg)
theorem row_set4 {w : World} {b : Nat} {r r' : Run} (h : Row w b 4 112 (runFn r)) : Row ((((w.setCell ⟨b, 0, none⟩ (.int .i64 r'.1)).setCell ⟨b, 1, none⟩ (.int .i64 r'.2.1)).setCell ⟨b, 2, none⟩ (.float .f64 r'.2.2.1)).setCell ⟨b, 3, none⟩ (.int .i64 r'.2.2.2)) b 4 112 (runFn r') := by
  refine ((((h.set (k := 0) _).set (k := 1) _).set (k := 2) _).set (k := 3) _).congr ?_
  intro i hi
  match i, hi with
  | 0, _ | 1, _ | 2, _ | 3, _ => simp [upd, runFn, runCells]
theorem Row.drewN {w : World} {b n : Nat} {t : TypeId} {f : Nat → Value} (h : Row w b n t f) (m : Nat) : Row (w.drewN m) b n t f := h

theorem run_news {w : World} {r : Run} : ∀ j u, (runCells r)[j]? = some u → (w.alloc (.cells #[.int .i64 r.1, .int .i64 r.2.1, .float .f64 r.2.2.1, .int .i64 r.2.2.2] 112)).cell? ((⟨w.heap.size, 0, none⟩ : Addr).add j) = some u := by
  intro j u hj
  match j, hj with
  | 0, hj | 1, hj | 2, hj | 3, hj => simp [runCells] at hj; subst hj; simp [Addr.add, go_sem]
theorem run_one (r : Run) : ∀ u ∈ runCells r, u.oneCell' = true := by
  intro u hu
  simp [runCells] at hu
  rcases hu with rfl | rfl | rfl | rfl <;> rfl

theorem row_new4 (w : World) (o : Obj) (r : Run) : Row ((w.alloc o).alloc (.cells #[.int .i64 r.1, .int .i64 r.2.1, .float .f64 r.2.2.1, .int .i64 r.2.2.2] 112)) (w.heap.size + 1) 4 112 (runFn r) := by
  refine ⟨#[.int .i64 r.1, .int .i64 r.2.1, .float .f64 r.2.2.1, .int .i64 r.2.2.2], ?_, rfl, ?_⟩
  · have e : w.heap.size + 1 = (w.alloc o).heap.size := by simp
    rw [e]
    generalize w.alloc o = w1
    show (w1.heap.push _)[w1.heap.size]? = _
    simp
  · intro j hj
    match j, hj with
    | 0, _ | 1, _ | 2, _ | 3, _ => rfl

set_option maxHeartbeats 4000000 in
set_option maxRecDepth 100000 in
theorem rising_any {B0 g n cap : Nat} {gs : List Lvl} (w : World) (h : w.ownsRow B0 32 5 (.slice (some ⟨g, 0, none⟩) n cap) n (lvlsCells gs)) (hg : n = gs.length) (hn : 0 < n) (hn2 : n ≤ 1024) :
    Calls Yba.prog 49 #[.slice (some ⟨g, 0, none⟩) n cap] w fun e w' => ∃ p c, e = .returned (.slice p n c) ∧ Below w.heap.size w w' := by
  obtain ⟨i1, hi1, hz1, hs1, hb1⟩ := info_parts Yba.info112
  have hrow := lvlRow_of_owns h hg
  have hgl : g < w.heap.size := (h.lt g rfl).2
  have HG : Hid (n = gs.length) := hg
  clear hg
  go_enter Yba.func49, Yba.ntmps49
  go_wp2_with fail
  go_loopw [3, 15] (fun u i wr => ∃ (k : Nat) (rs : List Run), k ≤ n ∧ i = .int .i64 k ∧ wr.ownsRow w.heap.size 112 4 u rs.length (runsCells rs) ∧ rs.length ≤ k ∧ RunsOk n rs ∧ Below w.heap.size w wr)
    (fun _ i _ => n - (intOf i).toNat)
  case atStart => exact ⟨0, [], Nat.zero_le _, rfl, World.ownsRow_nil _ _ _ _, Nat.le_refl _, fun r hr => by simp at hr, Below.refl _ _⟩
  case round =>
    obtain ⟨k, rs, hk, rfl, hown, hrk, hok, hnx⟩ := hrel
    have hsz := hnx.size
    by_cases hlt : k < n
    · obtain ⟨s, hsk⟩ : ∃ s, gs[k]? = some s := ⟨gs[k]'(by have := HG.out; omega), by simp⟩
      obtain ⟨h0, h1, h2, h3, h4⟩ := (hrow.below hnx) k s hsk
      have hu0 : ∀ g', u3.ownBlock = some g' → g' < wr.heap.size + 1 := fun g' hg' => by have := (hown.lt g' hg').2; omega
      clear hsk hrow h
      obtain ⟨w0, rfl⟩ : ∃ w0, w0 = wr := ⟨wr, rfl⟩
      go_wp2_with fail
      go_loopw [3] (fun u wq => ∃ (qs : List Run) (f l lat : Nat) (pr : Int), wq.ownsRow w.heap.size 112 4 u qs.length (runsCells qs) ∧ qs.length ≤ k ∧ RunsOk n qs ∧ l < n ∧ (∀ g', u.ownBlock = some g' → g' < w0.heap.size + 1) ∧
          Row wq (w0.heap.size + 1) 4 112 (runFn (f, l, lat, pr)) ∧ Below w.heap.size w wq)
        (fun u _ => lenV u)
      case atStart =>
        exact ⟨rs, k, k, _, _, (hown.alloc _).alloc _, hrk, hok, hlt, hu0, row_new4 _ _ (k, k, s.2.2.1, s.2.2.2.1), bel_alloc (bel_alloc hnx _) _⟩
      case round =>
        obtain ⟨qs, f, l, lat, pr, hoq, hqk, hokq, hln, hug, hrq, hnq⟩ := hrel
        have r0 : wr.cell? ⟨w0.heap.size + 1, 0, none⟩ = some (.int .i64 f) := hrq.cell (i := 0) (by omega)
        have r1 : wr.cell? ⟨w0.heap.size + 1, 1, none⟩ = some (.int .i64 l) := hrq.cell (i := 1) (by omega)
        have r2 : wr.cell? ⟨w0.heap.size + 1, 2, none⟩ = some (.float .f64 lat) := hrq.cell (i := 2) (by omega)
        have r3 : wr.cell? ⟨w0.heap.size + 1, 3, none⟩ = some (.int .i64 pr) := hrq.cell (i := 3) (by omega)
        have hb6 := hrq.lt
        have hszq := hnq.size
        clear h0 h1 h2 h3 h4 hu0
        rcases snoc_form qs with rfl | ⟨q0, x, rfl⟩
        · obtain ⟨p, c, rfl⟩ : ∃ p c, u3 = .slice p 0 c := by
            rcases hoq.2 with ⟨rfl, _⟩ | ⟨g', c', _, rfl, _⟩
            · exact ⟨_, _, rfl⟩
            · exact ⟨_, _, rfl⟩
          go_wp2_with fail
          go_quiet (fail)
          go_wp2_with (at_builtin; refine wpList_append_own _ rfl _ _ 110 rfl w.heap.size 112 i1 _ 4 32 Yba.underlying110 hi1 hz1 hs1 hb1 rfl (by decide) _ _ _ rfl (ownsRow_drewN' (hoq.alloc _) _) ⟨wr.heap.size, 0, none⟩ 1 1 (runCells (f, l, lat, pr)) rfl rfl ?c1 ?c2 ?c3 ?c4 ?c5 ?_)
          case c1 => exact fun j u hj => run_news (w := wr) (r := (f, l, lat, pr)) j u hj
          case c2 => exact run_one _
          case c3 => unfold maxLen; simp
          case c4 => simp
          case c5 => simp; omega
          intro v' w2 hown' hgrow _
          have hB2 : Below w.heap.size w w2 := by
            refine Below.grown (below_drewN (bel_alloc hnq _) _) hgrow (by simp; omega) ?_
            intro j hj; exact (hoq.lt j hj).1
          clear hgrow hoq r0 r1 r2 r3 hrq
          go_wp2_with fail
          go_roundw
          case rel => exact ⟨k + 1, _ ++ [(f, l, lat, pr)], by omega, by go_num, by rw [runsCells_snoc]; simpa using hown', by simp, RunsOk.snoc hokq hln, hB2⟩
          case measure => simp [intOf]; omega
        · simp only [List.length_append, List.length_singleton] at hoq hqk
          obtain ⟨g', c', rfl⟩ : ∃ g' c', u3 = .slice (some ⟨g', 0, none⟩) (q0.length + 1) c' := (hoq.form (by omega)).elim fun g' ⟨c', e, _⟩ => ⟨g', c', e⟩
          obtain ⟨x0, x1, x2, x3⟩ := runRow_of_owns hoq (by simp) q0.length x (by simp)
          have hgb : g' < w0.heap.size + 1 := hug g' rfl
          have hgw : g' < wr.heap.size := (hoq.lt g' rfl).2
          have hB : w.heap.size ≤ g' := (hoq.lt g' rfl).1
          have HQK : Hid (q0.length + 1 ≤ k) := hqk
          generalize hm : q0.length = m at *
          have hb0 : (0 : Int) < (m : Int) + 1 := by omega
          go_wp2_with fail
          go_quiet (fail)
          have z1 : (wr.drewN nq).ownsRow w.heap.size 112 4 (.slice (some ⟨g', 0, none⟩) (m + 1) c') (m + 1) (runsCells (q0 ++ [x])) := hoq
          have z2 : Row (wr.drewN nq) (w0.heap.size + 1) 4 112 (runFn (f, l, lat, pr)) := hrq
          have z3 : Below w.heap.size w (wr.drewN nq) := below_drewN hnq nq
          clear hoq hrq hnq r0 r1 r2 r3 x0 x1 x2 x3 hgw hszq hb6 hug
          generalize wr.drewN nq = wz at *
          have hb6 := z2.lt
          have hgw : g' < wz.heap.size := (z1.lt g' rfl).2
          have hszq := z3.size
          have r0 : wz.cell? ⟨w0.heap.size + 1, 0, none⟩ = some (.int .i64 f) := z2.cell (i := 0) (by omega)
          have r1 : wz.cell? ⟨w0.heap.size + 1, 1, none⟩ = some (.int .i64 l) := z2.cell (i := 1) (by omega)
          have r2 : wz.cell? ⟨w0.heap.size + 1, 2, none⟩ = some (.float .f64 lat) := z2.cell (i := 2) (by omega)
          have r3 : wz.cell? ⟨w0.heap.size + 1, 3, none⟩ = some (.int .i64 pr) := z2.cell (i := 3) (by omega)
          cases hcmp : (FloatKind.f64.format.order x.2.2.1 lat == some Ordering.gt || FloatKind.f64.format.order x.2.2.1 lat == some Ordering.eq) with
          | false =>
            have HM : Hid (q0.length = m) := hm
            clear hm
            go_wp2_with (at_builtin; refine wpList_append_own _ rfl _ _ 110 rfl w.heap.size 112 i1 _ 4 32 Yba.underlying110 hi1 hz1 hs1 hb1 rfl (by decide) _ _ _ rfl (z1.alloc _) ⟨wz.heap.size, 0, none⟩ 1 1 (runCells (f, l, lat, pr)) rfl rfl ?c1 ?c2 ?c3 ?c4 ?c5 ?_)
            case c1 => exact fun j u hj => run_news (w := wz) (r := (f, l, lat, pr)) j u hj
            case c2 => exact run_one _
            case c3 => unfold maxLen; have := HQK.out; omega
            case c4 => have := HQK.out; omega
            case c5 => simp; omega
            intro v' w2 hown' hgrow _
            have hB2 : Below w.heap.size w w2 := by
              refine Below.grown (bel_alloc z3 _) hgrow (by simp; omega) ?_
              intro j hj; exact (z1.lt j hj).1
            clear hgrow z1 z2 r0 r1 r2 r3
            go_wp2_with fail
            go_roundw
            case rel => exact ⟨k + 1, (q0 ++ [x]) ++ [(f, l, lat, pr)], by omega, by go_num, by rw [runsCells_snoc]; simpa [HM.out] using hown', by have := HQK.out; have := HM.out; simp; omega, RunsOk.snoc hokq hln, hB2⟩
            case measure => simp [intOf]; omega
          | true =>
            have f0 := z2.free 0
            have f1 := z2.free 1
            have f2 := z2.free 2
            have f3 := z2.free 3
            obtain ⟨x0, x1, x2, x3⟩ := runRow_of_owns z1 (by simp [hm]) m x (by simp [← hm])
            have hcap : ((m : Int) ≤ c') := by have := own_cap z1; omega
            rw [runsCells_snoc] at z1
            have HM : Hid (q0.length = m) := hm
            clear hm
            have z1' := ownsRow_pop (by rw [runs_length, HM.out]) z1
            have hokq' : RunsOk n q0 := fun r hr => hokq r (by simp [hr])
            have hne : ∀ g, (Value.slice (some ⟨g', 0, none⟩) m c').ownBlock = some g → g ≠ w0.heap.size + 1 := fun gg hgg => by
              have : g' = gg := by simpa [Value.ownBlock] using hgg
              omega
            clear z1 hokq
            go_wp2_with fail
            go_roundw
            case rel => exact ⟨q0, x.1, l, _, _, by rw [HM.out]; exact own_set (own_set (own_set (own_set (ownsRow_drewN' (z1'.alloc _) _) hne _) hne _) hne _) hne _, by rw [HM.out]; have := HQK.out; omega, hokq', hln, fun gg hgg => by (have : g' = gg := by simpa [Value.ownBlock] using hgg); omega,
                row_set4 (r' := (x.1, l, _, _)) ((z2.alloc _).drewN _), (((((below_drewN (bel_alloc z3 _) _).setCell (by simp; omega) _).setCell (by simp; omega) _).setCell (by simp; omega) _).setCell (by simp; omega) _)⟩
            case measure => simp [lenV]
    · have hkn : k = n := by omega
      subst hkn
      obtain ⟨w2, rfl⟩ : ∃ w2, w2 = wr := ⟨wr, rfl⟩
      have h2 : w2.ownsRow B0 32 5 (.slice (some ⟨g, 0, none⟩) k cap) k (lvlsCells gs) := owns_of_block h fun g' hg' => hnx.block g' ((h.lt g' hg').2)
      obtain ⟨p, c, rfl⟩ : ∃ p c, u3 = .slice p rs.length c := by
        rcases hown.2 with ⟨rfl, e⟩ | ⟨g', c', _, rfl, _⟩
        · exact ⟨none, 0, by rw [e]⟩
        · exact ⟨_, _, rfl⟩
      have hrr : ∀ i s, rs[i]? = some s → ∃ gr, p = some ⟨gr, 0, none⟩ ∧ gr < w2.heap.size ∧ w2.cell? ⟨gr, i * 4, none⟩ = some (.int .i64 s.1) ∧ w2.cell? ⟨gr, i * 4 + 1, none⟩ = some (.int .i64 s.2.1) ∧ w2.cell? ⟨gr, i * 4 + 2, none⟩ = some (.float .f64 s.2.2.1) ∧ w2.cell? ⟨gr, i * 4 + 3, none⟩ = some (.int .i64 s.2.2.2) := by
        intro i s hs
        have hpos : 0 < rs.length := by have := (List.getElem?_eq_some_iff.1 hs).1; omega
        obtain ⟨gr, c', e, _⟩ := hown.form hpos
        simp only [Value.slice.injEq, true_and] at e
        obtain ⟨rfl, rfl⟩ := e
        exact ⟨gr, rfl, (hown.lt gr rfl).2, runRow_of_owns hown rfl i s hs⟩
      clear hrow hown h
      have hr1024 : rs.length ≤ 1024 := by omega
      go_wp2_with (go_at_call 53; refine (clone_lvl _ h2 hn (by omega)).mono ?_; rintro e w3 ⟨gp, cp, rfl, hop, hb3⟩)
      clear h2
      go_loopw [89] (fun i wr => ∃ j : Nat, j ≤ rs.length ∧ i = .int .i64 j ∧ (∃ xs, wr.ownsRow w2.heap.size 32 5 (.slice (some ⟨gp, 0, none⟩) k cp) k xs) ∧ Below w2.heap.size w2 wr) (fun i _ => rs.length - (intOf i).toNat)
      case atStart => exact ⟨0, Nat.zero_le _, rfl, ⟨_, hop⟩, hb3⟩
      case round =>
        obtain ⟨j, hj, rfl, ⟨xs, hox⟩, hnr⟩ := hrel
        have hszr := hnr.size
        have hgp := hox.lt gp rfl
        by_cases hjl : j < rs.length
        · obtain ⟨s, hs⟩ : ∃ s, rs[j]? = some s := ⟨rs[j], by simp [hjl]⟩
          obtain ⟨gr, rfl, hgr, c0, c1, c2, c3⟩ := hrr j s hs
          have hsk : s.2.1 < k := hok s (List.mem_of_getElem? hs)
          rw [← hnr.cell hgr] at c0 c1 c2 c3
          clear hrr hs hop
          obtain ⟨w4, rfl⟩ : ∃ w4, w4 = wr := ⟨wr, rfl⟩
          go_wp2_with fail
          go_loopw [12] (fun i wq => ∃ q : Nat, i = .int .i64 q ∧ (∃ xs, wq.ownsRow w2.heap.size 32 5 (.slice (some ⟨gp, 0, none⟩) k cp) k xs) ∧ w4.heap.size < wq.heap.size ∧
              wq.cell? ⟨w4.heap.size, 1, none⟩ = some (.int .i64 s.2.1) ∧ wq.cell? ⟨w4.heap.size, 2, none⟩ = some (.float .f64 s.2.2.1) ∧ wq.cell? ⟨w4.heap.size, 3, none⟩ = some (.int .i64 s.2.2.2) ∧ Below w2.heap.size w2 wq)
            (fun i _ => k - (intOf i).toNat)
          case atStart => exact ⟨s.1, rfl, ⟨xs, hox.alloc _⟩, by simp, by simp [go_sem], by simp [go_sem], by simp [go_sem], Below.alloc hnr hszr _⟩
          case round =>
            obtain ⟨q, rfl, ⟨xs', hox'⟩, hwq, e1, e2, e3, hnq⟩ := hrel
            by_cases hql : q ≤ s.2.1
            · have b1 : (q : Int) < k := by omega
              have b0 : (0 : Int) ≤ q := by omega
              have hl2 : xs'.length = k * 5 := hox'.1
              have d2 : ∃ u, wr.cell? ⟨gp, q * 5 + 2, none⟩ = some u := ⟨xs'[q * 5 + 2]'(by omega), by rw [hox'.cellAt _ (by omega)]; simp⟩
              have d3 : ∃ u, wr.cell? ⟨gp, q * 5 + 3, none⟩ = some u := ⟨xs'[q * 5 + 3]'(by omega), by rw [hox'.cellAt _ (by omega)]; simp⟩
              obtain ⟨u2, d2⟩ := d2
              obtain ⟨u3, d3⟩ := d3
              have f2 := hox'.frozenAt (q * 5 + 2)
              have f3 := hox'.frozenAt (q * 5 + 3)
              have hgne : gp ≠ w4.heap.size := by omega
              go_wp2_with fail
              go_region
              have hB' : Below w2.heap.size w2 ((wr.setCell ⟨gp, q * 5 + 2, none⟩ (.float .f64 s.2.2.1)).setCell ⟨gp, q * 5 + 3, none⟩ (.int .i64 s.2.2.2)).drew := ((hnq.setCell hgp.1 _).setCell hgp.1 _).drew
              have hO' : ((wr.setCell ⟨gp, q * 5 + 2, none⟩ (.float .f64 s.2.2.1)).setCell ⟨gp, q * 5 + 3, none⟩ (.int .i64 s.2.2.2)).drew.ownsRow w2.heap.size 32 5 (.slice (some ⟨gp, 0, none⟩) k cp) k _ := ((hox'.stored (q * 5 + 2) (.float .f64 s.2.2.1)).1.stored (q * 5 + 3) (.int .i64 s.2.2.2)).1
              have hC' : ∀ o, ((wr.setCell ⟨gp, q * 5 + 2, none⟩ (.float .f64 s.2.2.1)).setCell ⟨gp, q * 5 + 3, none⟩ (.int .i64 s.2.2.2)).drew.cell? ⟨w4.heap.size, o, none⟩ = wr.cell? ⟨w4.heap.size, o, none⟩ := fun o =>
                World.cell?_of_block (by show (World.setCell _ _ _).heap[w4.heap.size]? = _; rw [heap_set_other _ _ _ (Ne.symm hgne), heap_set_other _ _ _ (Ne.symm hgne)])
              have hS' : w4.heap.size < ((wr.setCell ⟨gp, q * 5 + 2, none⟩ (.float .f64 s.2.2.1)).setCell ⟨gp, q * 5 + 3, none⟩ (.int .i64 s.2.2.2)).drew.heap.size := by simpa using hwq
              rw [← hC'] at e1 e2 e3
              clear hox' hnq hC' d2 d3 f2 f3 hwq
              generalize ((wr.setCell ⟨gp, q * 5 + 2, none⟩ (.float .f64 s.2.2.1)).setCell ⟨gp, q * 5 + 3, none⟩ (.int .i64 s.2.2.2)).drew = wy at *
              go_wp2_with fail
              go_roundw
              case rel => exact ⟨q + 1, by go_num, ⟨_, hO'⟩, hS', e1, e2, e3, hB'⟩
              case measure => simp [intOf]; omega
            · go_wp2_with fail
              go_roundw
              case rel => exact ⟨j + 1, by omega, by go_num, ⟨xs', hox'⟩, hnq⟩
              case measure => simp [intOf]; omega
        · go_wp2_with fail
          go_ret
          exact ⟨_, _, rfl, hnx.trans (hnr.mono hsz)⟩
end Go.Proofs.Ybulkahla

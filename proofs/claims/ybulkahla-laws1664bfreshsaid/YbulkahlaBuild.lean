import Derived.Test.YbulkahlaSteps
import Derived.Deep.RegionHeld3
namespace Go.Proofs.Ybulkahla
open Go.RowKit
set_option linter.unusedSimpArgs false
attribute [local go_sem] run_store_float call31 call42 call43
attribute [local go_sem ↓] run_fadd run_fsub run_fmul run_fquo run_fmax run_fmin run_fsqrt

/-- One level as it came in: least, load, latency (bits), sel, samples. -/
abbrev Gin := Nat × Nat × Nat × Int × Int
def lvlOf (g : Gin) : Lvl := (g.1, g.2.1, g.2.2.1, 99 + g.2.2.2.1 % 3, g.2.2.2.2)

/-- WHAT THE WALK IS TOLD OF A SLICE OF LEVELS THAT CAME IN. -/
def GinAt (w : World) (a : Option Addr) (l : List Gin) : Prop :=
  ∀ i s, l[i]? = some s → ∃ b off, a = some ⟨b, off, none⟩ ∧ b < w.heap.size ∧
    w.cell? ⟨b, off + i * 5, none⟩ = some (.float .f64 s.1) ∧ w.cell? ⟨b, off + i * 5 + 1, none⟩ = some (.float .f64 s.2.1) ∧
    w.cell? ⟨b, off + i * 5 + 2, none⟩ = some (.float .f64 s.2.2.1) ∧ w.cell? ⟨b, off + i * 5 + 3, none⟩ = some (.int .u8 s.2.2.2.1) ∧ w.cell? ⟨b, off + i * 5 + 4, none⟩ = some (.int .i64 s.2.2.2.2) ∧
    0 ≤ s.2.2.2.1 ∧ s.2.2.2.1 ≤ 255

theorem SmpsAt.below {w w' : World} {a : Option Addr} {l : List Smp} (h : SmpsAt w a l) (hb : Below w.heap.size w w') : SmpsAt w' a l := by
  intro i s hs
  obtain ⟨b, off, rfl, hlt, h1, h2, h3, h4⟩ := h i s hs
  exact ⟨b, off, rfl, Nat.lt_of_lt_of_le hlt hb.size, cell_kept hb h1, cell_kept hb h2, cell_kept hb h3, cell_kept hb h4⟩
theorem GinAt.below {w w' : World} {a : Option Addr} {l : List Gin} (h : GinAt w a l) (hb : Below w.heap.size w w') : GinAt w' a l := by
  intro i s hs
  obtain ⟨b, off, rfl, hlt, h1, h2, h3, h4, h5, h6⟩ := h i s hs
  exact ⟨b, off, rfl, Nat.lt_of_lt_of_le hlt hb.size, cell_kept hb h1, cell_kept hb h2, cell_kept hb h3, cell_kept hb h4, cell_kept hb h5, h6⟩

theorem probes_any (sel : Int) (w : World) (h0 : 0 ≤ sel) (h1 : sel ≤ 255) :
    Calls Yba.prog 16 #[.int .u8 sel] w fun e w' => e = .returned (.int .i64 (99 + sel % 3)) ∧ w' = w := by
  go_enter Yba.func16, Yba.ntmps16
  go_wp2_with fail
  go_ret
  exact ⟨rfl, rfl⟩

theorem Yba.info32 : (Yba.prog.info? 32).map (fun i => (i.zero, i.size, i.bytes)) = some (some (.agg #[.float .f64 0, .float .f64 0, .float .f64 0, .int .i64 0, .int .i64 0]), 5, 40) := by kernel_rfl

theorem not_nil_form {w : World} {base : Nat} {e : TypeId} {size : Nat} {v : Value} {n : Nat} {xs : List Value} (h : w.ownsRow base e size v n xs) (hn : v ≠ .slice none 0 0) : ∃ g c, v = .slice (some ⟨g, 0, none⟩) n c ∧ base ≤ g := by
  rcases h.2 with ⟨rfl, rfl⟩ | ⟨g, cap, _, rfl, hb, _⟩
  · exact absurd rfl hn
  · exact ⟨_, _, rfl, hb⟩

theorem map_take_snoc {α β : Type} (f : α → β) {l : List α} {k : Nat} {s : α} (h : l[k]? = some s) : (l.take (k + 1)).map f = (l.take k).map f ++ [f s] := by rw [take_snoc' h]; simp

theorem ownsRow_drew {w : World} {base : Nat} {e : TypeId} {size : Nat} {v : Value} {n : Nat} {xs : List Value} (h : w.ownsRow base e size v n xs) : w.drew.ownsRow base e size v n xs := h
theorem ownsRow_drewN {w : World} {base : Nat} {e : TypeId} {size : Nat} {v : Value} {n : Nat} {xs : List Value} (h : w.ownsRow base e size v n xs) (m : Nat) : (w.drewN m).ownsRow base e size v n xs := h

theorem lvl_news {w : World} {A : Obj} {g : Lvl} : ∀ j u, (lvlCells g)[j]? = some u → ((w.alloc A).alloc (.cells #[.float .f64 g.1, .float .f64 g.2.1, .float .f64 g.2.2.1, .int .i64 g.2.2.2.1, .int .i64 g.2.2.2.2] 32)).drew.cell? ((⟨w.heap.size + 1, 0, none⟩ : Addr).add j) = some u := by
  intro j u hj
  match j, hj with
  | 0, hj | 1, hj | 2, hj | 3, hj | 4, hj => simp [lvlCells] at hj; subst hj; simp [Addr.add, go_sem]
theorem lvl_one (g : Lvl) : ∀ u ∈ lvlCells g, u.oneCell' = true := by
  intro u hu; simp [lvlCells] at hu; rcases hu with rfl | rfl | rfl | rfl | rfl <;> rfl

set_option maxHeartbeats 2000000 in
set_option maxRecDepth 100000 in
theorem build_any (a a' : Option Addr) (cap cap' : Nat) (l : List Smp) (gi : List Gin) (least : Nat) (mp : Int) (w : World) (hl : l.length ≤ 1024) (hgl : gi.length ≤ 1024) (hc : SmpsAt w a l) (hd : GinAt w a' gi) :
    Calls Yba.prog 8 #[.slice a l.length cap, .slice a' gi.length cap', .float .f64 least, .int .i64 mp] w fun e w' =>
      ∃ bs bl cl br bg cg, e = .returned (.pointer (some ⟨bs, 0, none⟩)) ∧ Below w.heap.size w w' ∧ SrvAt w' bs bl cl br bg cg l (gi.map lvlOf) least mp := by
  obtain ⟨i0, hi, hz0, hz1, hz2⟩ := info_parts Yba.info42
  obtain ⟨w1, hmk, hown0, hg0⟩ := run_makeSlice_owned (P := Yba.prog) w w.heap.size 37 42 i0 _ 9 Yba.underlying37 hi hz0 hz1 .i64 .i64 l.length (by omega) (by rw [hz2]; omega) (by unfold maxLen; omega) (Nat.le_refl _)
  have hB1 : Below w.heap.size w w1 := (Below.refl _ _).grown hg0 (Nat.le_refl _) (by intro k hk; cases hk)
  clear hg0
  go_enter Yba.func8, Yba.ntmps8
  go_wp2_with fail
  go_loopw [9, 20] (fun v i wr => ∃ k : Nat, k ≤ l.length ∧ i = .int .i64 k ∧ v ≠ .slice none 0 0 ∧ wr.ownsRow w.heap.size 42 9 v k (smpsCells (l.take k)) ∧ Below w.heap.size w wr)
    (fun _ i _ => l.length - (intOf i).toNat)
  case atStart => exact ⟨0, Nat.zero_le _, rfl, (by intro h; cases h), by simpa [smpsCells] using hown0, hB1⟩
  case round =>
    obtain ⟨k, hk, rfl, hnn, hown, hnx⟩ := hrel
    have hsz := hnx.size
    clear hB1 hown0 hmk
    by_cases hlt : k < l.length
    · obtain ⟨s, hs⟩ : ∃ s, l[k]? = some s := ⟨l[k], by simp [hlt]⟩
      obtain ⟨b, off, rfl, hb, h1, h2, h3, h4⟩ := hc k s hs
      rw [← hnx.cell (p := ⟨b, _, none⟩) hb] at h1 h2 h3 h4
      have HTK : Hid (smpsCells (l.take (k + 1)) = smpsCells (l.take k) ++ smpCells s) := by
        show _ = _
        rw [← smpsCells_snoc, take_snoc' hs]
      clear hc hd hs
      have HNN : Hid (u9 ≠ .slice none 0 0) := hnn
      clear hnn
      go_wp2_with (at_builtin; refine wpList_append_own _ rfl _ _ 37 rfl w.heap.size 42 i0 _ 9 72 Yba.underlying37 hi hz0 hz1 hz2 rfl (by decide) _ _ _ rfl ((hown.alloc _).alloc _) ⟨wr.heap.size + 1, 0, none⟩ 1 1 (smpCells s) rfl rfl ?c1 ?c2 ?c3 ?c4 ?c5 ?_)
      case c1 =>
        intro j u hj
        match j, hj with
        | 0, hj | 1, hj | 2, hj | 3, hj | 4, hj | 5, hj | 6, hj | 7, hj | 8, hj => simp [smpCells] at hj; subst hj; simp [Addr.add, go_sem]
      case c2 => intro u hu; simp [smpCells] at hu; rcases hu with rfl | rfl | rfl | rfl | rfl | rfl | rfl | rfl | rfl <;> rfl
      case c3 => unfold maxLen; omega
      case c4 => omega
      case c5 => simp; omega
      · intro v' w2 hown' hgrow hnil
        have hB2 : Below w.heap.size w w2 := by
          refine Below.grown ((hnx.alloc hsz _).alloc (by simp; omega) _) hgrow (by simp; omega) ?_
          intro j hj; exact (hown.lt j hj).1
        have HN' : Hid (v' ≠ .slice none 0 0) := by
          intro h; simp [h] at hnil
        rw [← HTK.out] at hown'
        clear hgrow hown h1 h2 h3 h4 hnil
        go_wp2_with fail
        go_roundw
        case rel => exact ⟨k + 1, by omega, by go_num, HN'.out, hown', hB2⟩
        case measure => simp [intOf]; omega
    · have hkl : k = l.length := by omega
      subst hkl
      rw [List.take_length] at hown
      obtain ⟨bl, cl, rfl, hbl⟩ := not_nil_form hown hnn
      have hsm := smpRow_of_owns hown rfl
      obtain ⟨w2, rfl⟩ : ∃ w2, w2 = wr := ⟨wr, rfl⟩
      obtain ⟨i1, hi1, hy0, hy1, hy2⟩ := info_parts Yba.info32
      obtain ⟨w3, hmk, hown0, hg0⟩ := run_makeSlice_owned (P := Yba.prog) w2 w2.heap.size 33 32 i1 _ 5 Yba.underlying33 hi1 hy0 hy1 .i64 .i64 gi.length (by omega) (by rw [hy2]; omega) (by unfold maxLen; omega) (Nat.le_refl _)
      have hB3 : Below w2.heap.size w2 w3 := (Below.refl _ _).grown hg0 (Nat.le_refl _) (by intro k hk; cases hk)
      have hd2 := hd.below hnx
      clear hg0 hown hd hc hnn
      go_wp2_with fail
      go_loopw [12, 43] (fun v i wr => ∃ k : Nat, k ≤ gi.length ∧ i = .int .i64 k ∧ v ≠ .slice none 0 0 ∧ wr.ownsRow w2.heap.size 32 5 v k (lvlsCells ((gi.take k).map lvlOf)) ∧ Below w2.heap.size w2 wr)
        (fun _ i _ => gi.length - (intOf i).toNat)
      case atStart => exact ⟨0, Nat.zero_le _, rfl, (by intro h; cases h), by simpa [lvlsCells] using hown0, hB3⟩
      case round =>
        obtain ⟨k, hk, rfl, hnn, hown, hnr⟩ := hrel
        have hsz2 := hnr.size
        clear hB3 hown0 hmk
        by_cases hlt2 : k < gi.length
        · obtain ⟨s, hs⟩ : ∃ s, gi[k]? = some s := ⟨gi[k], by simp [hlt2]⟩
          obtain ⟨b, off, rfl, hb, h1, h2, h3, h4, h5, hs0, hs1⟩ := (hd2.below hnr) k s hs
          have HTK : Hid (lvlsCells ((gi.take (k + 1)).map lvlOf) = lvlsCells ((gi.take k).map lvlOf) ++ lvlCells (lvlOf s)) := by
            show _ = _
            rw [← lvlsCells_snoc, map_take_snoc lvlOf hs]
          have HNN : Hid (u12 ≠ .slice none 0 0) := hnn
          clear hnn hd2 hs
          have hne : some wr.heap.size ≠ u12.ownBlock := by
            intro h; have := (hown.lt _ h.symm).2; omega
          go_upto_region 11 with fail
          go_region_held3 (fun w' => w'.cell? ⟨wr.heap.size, 0, none⟩ = some (.float .f64 s.1) ∧ w'.cell? ⟨wr.heap.size, 1, none⟩ = some (.float .f64 s.2.1) ∧ w'.cell? ⟨wr.heap.size, 2, none⟩ = some (.float .f64 s.2.2.1) ∧
              w'.cell? ⟨wr.heap.size, 3, none⟩ = some (.int .u8 s.2.2.2.1) ∧ w'.cell? ⟨wr.heap.size, 4, none⟩ = some (.int .i64 s.2.2.2.2))
            (first | (exact ⟨by assumption, by assumption, by assumption, by assumption, by assumption⟩) | (simp [go_sem]))
            (first
              | (go_at_call 16; refine (probes_any _ _ hs0 hs1).mono ?_; rintro e w' ⟨rfl, rfl⟩)
              | (refine step_append_own rfl (.tmp 47) (.tmp 60) 33 rfl w2.heap.size 32 i1 _ 5 40 Yba.underlying33 hi1 hy0 hy1 hy2 rfl (by decide) u12 k _ rfl (ownsRow_drew ((hown.alloc _).alloc _)) ⟨wr.heap.size + 1, 0, none⟩ 1 1 (lvlCells (lvlOf s)) rfl rfl (lvl_news (g := lvlOf s)) (lvl_one _) (by unfold maxLen; omega) (by omega) (by simp; omega) ?_
                 intro v' w4 hown4 hgrow4 hnil4
                 have q0 := hgrow4.cell (a := ⟨wr.heap.size, 0, none⟩) (v := .float .f64 s.1) (by simp [go_sem]) hne
                 have q1 := hgrow4.cell (a := ⟨wr.heap.size, 1, none⟩) (v := .float .f64 s.2.1) (by simp [go_sem]) hne
                 have q2 := hgrow4.cell (a := ⟨wr.heap.size, 2, none⟩) (v := .float .f64 s.2.2.1) (by simp [go_sem]) hne
                 have q3 := hgrow4.cell (a := ⟨wr.heap.size, 3, none⟩) (v := .int .u8 s.2.2.2.1) (by simp [go_sem]) hne
                 have q4 := hgrow4.cell (a := ⟨wr.heap.size, 4, none⟩) (v := .int .i64 s.2.2.2.2) (by simp [go_sem]) hne))
          have hB4 : Below w2.heap.size w2 w4 := by
            refine Below.grown (bel_alloc (bel_alloc hnr _) _).drew hgrow4 (by simp; omega) ?_
            intro j hj; exact (hown.lt j hj).1
          have HN' : Hid (v' ≠ .slice none 0 0) := by
            intro h; have := (hnil4.1 h).2; omega
          rw [← HTK.out] at hown4
          clear hgrow4 hown h1 h2 h3 h4 h5 hnil4 q0 q1 q2 q3 q4 hne
          go_wp2_with fail
          go_roundw
          case rel => exact ⟨k + 1, by omega, by go_num, HN'.out, hown4, hB4⟩
          case measure => simp [intOf]; omega
        · have hkl : k = gi.length := by omega
          subst hkl
          rw [List.take_length] at hown
          obtain ⟨bg, cg, rfl, hbg⟩ := not_nil_form hown hnn
          have hlv := lvlRow_of_owns hown (by simp)
          have hsm2 := hsm.below hnr
          have hBw : Below w.heap.size w wr := hnx.trans (hnr.mono hsz)
          clear hown hnn hsm hnx hnr hd2
          go_wp2_with (go_at_call 10; refine (inf_any _).mono ?_; rintro e w' ⟨rfl, rfl⟩)
          go_ret
          refine ⟨w'.heap.size + 1, bl, cl, w'.heap.size, bg, cg, rfl, bel_alloc (bel_alloc hBw _) _, ⟨?_, ?_, ?_, ?_, ?_, ?_, ?_, ?_⟩⟩
          · simp [go_sem]
          · simp [go_sem]

          · simp [go_sem]
          · simp [go_sem]
          · simp [go_sem]
          · simp [go_sem]
          · exact hsm2.below (bel_alloc (bel_alloc (Below.refl _ _) _) _)
          · exact hlv.below (bel_alloc (bel_alloc (Below.refl _ _) _) _)
end Go.Proofs.Ybulkahla

import Derived.Test.YbulkahqyFmtBlk
import Derived.Deep.AppendLies
namespace Go.Proofs.YbulkahqyFmt
open Go.RowKit
set_option linter.unusedSimpArgs false

theorem Ybaf.infoB : (Ybaf.prog.info? 5).map (fun i => (i.zero, i.size, i.bytes)) = some (some (.int .u8 0), 1, 1) := by kernel_rfl

/-- bytes as cells -/
def bcs (l : List Int) : List Value := l.map (.int .u8)
theorem bcs_append (l l' : List Int) : bcs (l ++ l') = bcs l ++ bcs l' := by simp [bcs]
theorem bcs_one (l : List Int) : ∀ u ∈ bcs l, u.oneCell' = true := by
  intro u hu
  simp [bcs] at hu
  obtain ⟨x, _, rfl⟩ := hu
  rfl

def tab : List Int := [97, 98, 99, 120, 121, 122, 46, 45, 48, 57]
/-- the length of the name -/
def nameL (n : Nat) : Nat := if n = 0 then 1 else if 255 < n then 255 else n
/-- the name's bytes -/
def nameC (raw : List Int) (i : Nat) : Int := (raw[i]?).elim 97 fun c => tab.getD (c % 10).toNat 97
def nameB (raw : List Int) (n : Nat) : List Int := (List.range n).map (nameC raw)
theorem nameB_succ (raw : List Int) (n : Nat) : nameB raw (n + 1) = nameB raw n ++ [nameC raw n] := by simp [nameB, List.range_succ]
def headB (L : Nat) : List Int := [1, (52 + (L : Int)) / 65536, (52 + (L : Int)) / 256, (52 + (L : Int)) % 256]
def extB (L : Nat) : List Int := [(9 + (L : Int)) / 256, (9 + (L : Int)) % 256, 0, 0, (5 + (L : Int)) / 256, (5 + (L : Int)) % 256, (3 + (L : Int)) / 256, (3 + (L : Int)) % 256, 0, (L : Int) / 256, (L : Int)]
def randB (n : Nat) : List Int := (List.range n).map fun (i : Nat) => (i : Int)
theorem randB_succ (n : Nat) : randB (n + 1) = randB n ++ [(n : Int)] := by simp [randB, List.range_succ]
def msgB (raw : List Int) (L : Nat) : List Int := headB L ++ randB 34 ++ [0, 0, 2, 19, 1, 1, 0] ++ extB L ++ nameB raw L

theorem news_at (w : World) (l : List Int) : ∀ j u, (bcs l)[j]? = some u → (w.alloc (.cells (bcs l).toArray 5)).cell? ((⟨w.heap.size, 0, none⟩ : Addr).add j) = some u := by
  intro j u hj
  have e : (⟨w.heap.size, 0, none⟩ : Addr).add j = ⟨w.heap.size, j, none⟩ := by unfold Addr.add; split <;> simp_all
  rw [e]
  have h : (w.alloc (.cells (bcs l).toArray 5)).heap[w.heap.size]? = some (.cells (bcs l).toArray 5) := by
    show (w.heap.push _)[w.heap.size]? = _
    simp
  have hg : ∀ (W : World) (c : Array Value), W.heap[w.heap.size]? = some (.cells c 5) → W.cell? ⟨w.heap.size, j, none⟩ = c[j]? := by
    intro W c hW
    simp [World.cell?, hW]
  rw [hg _ _ h]
  simpa using hj

theorem bel_alloc {w wr : World} (h : Below w.heap.size w wr) (o : Obj) : Below w.heap.size w (wr.alloc o) := h.alloc h.size o

/-- what is told of a slice of bytes that came in -/
def BytesAt (w : World) (a : Option Addr) (l : List Int) : Prop :=
  ∀ i c, l[i]? = some c → ∃ b o, a = some ⟨b, o, none⟩ ∧ w.cell? ⟨b, o + i, none⟩ = some (.int .u8 c) ∧ 0 ≤ c ∧ c ≤ 255

theorem cell_kept {w w' : World} (h : Below w.heap.size w w') {a : Addr} {v : Value} (hc : w.cell? a = some v) : w'.cell? a = some v := by
  rw [h.cell (World.block_lt_of_cell? w a hc)]; exact hc
theorem BytesAt.below {w w' : World} {a : Option Addr} {l : List Int} (h : BytesAt w a l) (hb : Below w.heap.size w w') : BytesAt w' a l := by
  intro i c hc
  obtain ⟨b, o, h1, h2, h3⟩ := h i c hc
  exact ⟨b, o, h1, cell_kept hb h2, h3⟩

set_option maxHeartbeats 2000000 in
set_option maxRecDepth 100000 in
theorem msg_any (a : Option Addr) (cap : Nat) (raw : List Int) (w : World) (hl : raw.length ≤ 1024) (hc : BytesAt w a raw) :
    Calls Ybaf.prog 7 #[.slice a raw.length cap] w fun e w' => ∃ g c, e = .returned (.tuple #[.slice (some ⟨g, 0, none⟩) (56 + nameL raw.length) c, .int .i64 (nameL raw.length)]) ∧ Below w.heap.size w w' ∧
      w'.ownsRow w.heap.size 5 1 (.slice (some ⟨g, 0, none⟩) (56 + nameL raw.length) c) (56 + nameL raw.length) (bcs (msgB raw (nameL raw.length))) := by
  obtain ⟨i0, hi, hz0, hz1, hz2⟩ := info_parts Ybaf.infoB
  generalize hlen : raw.length = len at *
  have HLN : Hid (raw.length = len) := hlen
  clear hlen
  go_enter Ybaf.func7, Ybaf.ntmps7
  go_upto_if 14 with fail
  go_cut [4] (fun u4 wc => ∃ x : Nat, u4 = .int .i64 x ∧ x = (if len = 0 then 1 else len) ∧ wc = w)
  case first =>
    by_cases h0 : len = 0
    · subst h0
      go_wp2_with fail
      go_meet
      case rel => exact ⟨1, rfl, by simp, rfl⟩
    · have h0' : ((len : Int) == 0) = false := by simp; omega
      go_wp2_with fail
      go_meet
      case rel => exact ⟨len, rfl, by simp [h0], rfl⟩
  case rest =>
    obtain ⟨x, rfl, hx, rfl⟩ := hcut
    have HX : Hid (x = (if len = 0 then 1 else len)) := hx
    have hx1 : 1 ≤ x ∧ x ≤ 1024 := by rw [hx]; split <;> omega
    clear hx
    go_upto_if 16 with fail
    go_cut [4] (fun u4 wc' => ∃ L : Nat, u4 = .int .i64 L ∧ L = nameL len ∧ 1 ≤ L ∧ L ≤ 255 ∧ wc' = wc)
    case first =>
      by_cases h255 : 255 < x
      · have h255' : (255 : Int) < (x : Int) := by omega
        go_wp2_with fail
        go_meet
        case rel => exact ⟨255, rfl, by have := HX.out; unfold nameL; split at this <;> (first | omega | (rw [if_neg (by omega), if_pos (by omega)])), by omega, by omega, rfl⟩
      · go_wp2_with fail
        go_meet
        case rel => exact ⟨x, rfl, by have := HX.out; unfold nameL; split at this <;> (first | (rw [if_pos (by omega)]; omega) | (rw [if_neg (by omega), if_neg (by omega)]; omega)), by omega, by omega, rfl⟩
    case rest =>
      obtain ⟨L, rfl, hL, hL1, hL2, hwe⟩ := hcut
      subst hwe
      have HL : Hid (L = nameL len) := hL
      clear hL hx1 HX
      obtain ⟨w, rfl⟩ : ∃ w, w = wc := ⟨wc, rfl⟩
      obtain ⟨w1, hmk, hown0, hg0⟩ := run_makeSlice_owned (P := Ybaf.prog) w w.heap.size 22 5 i0 _ 1 Ybaf.underlying22 hi hz0 hz1 .i64 .i64 (56 + L) (by omega) (by rw [hz2]; omega) (by unfold maxLen; omega) (Nat.le_refl _)
      have ec : ((56 + L : Nat) : Int) = 56 + (L : Int) := by omega
      rw [ec] at hmk
      have hB1 : Below w.heap.size w w1 := (Below.refl _ _).grown hg0 (Nat.le_refl _) (by intro k hk; cases hk)
      have hs1 := hB1.size
      clear hg0 ec
      go_wp2_with (at_builtin; refine wpList_append_lies _ rfl _ _ 22 rfl w.heap.size 5 i0 _ 1 1 Ybaf.underlying22 hi hz0 hz1 hz2 rfl (by decide) _ _ _ rfl (hown0.alloc _) ⟨w1.heap.size, 0, none⟩ 4 4 (bcs (headB L)) rfl rfl ?c1 ?c2 (by decide) ?c3 ?c4 ?c5 _ rfl ?_)
      case c1 => exact news_at w1 (headB L)
      case c2 => exact bcs_one _
      case c3 => unfold maxLen; omega
      case c4 => omega
      case c5 => simp; omega
      intro g0 cc0 w2 ho2 hgr hat hlt
      have hB2 : Below w.heap.size w w2 := Below.grown (hB1.alloc (by omega) _) hgr (by simp; omega) (fun k hk => (hown0.lt k hk).1)
      clear hgr hat hlt hown0 hmk
      go_wp2_with fail
      go_loopw [6, 7] (fun u6 u7 wr => ∃ (i g c : Nat), i ≤ 34 ∧ u7 = .int .i64 i ∧ u6 = .slice (some ⟨g, 0, none⟩) (4 + i) c ∧ wr.ownsRow w.heap.size 5 1 (.slice (some ⟨g, 0, none⟩) (4 + i) c) (4 + i) (bcs (headB L ++ randB i)) ∧ Below w.heap.size w wr)
        (fun _ i _ => 34 - (intOf i).toNat)
      case atStart => exact ⟨0, g0, cc0, by omega, rfl, rfl, by simpa [randB] using ho2, hB2⟩
      case round =>
        obtain ⟨i, g, c, hi34, rfl, rfl, hoi, hnr⟩ := hrel
        have hsr := hnr.size
        by_cases hlt : i < 34
        · go_wp2_with (at_builtin; refine wpList_append_lies _ rfl _ _ 22 rfl w.heap.size 5 i0 _ 1 1 Ybaf.underlying22 hi hz0 hz1 hz2 rfl (by decide) _ _ _ rfl (hoi.alloc _) ⟨wr.heap.size, 0, none⟩ 1 1 (bcs [(i : Int)]) rfl rfl ?c1 ?c2 (by decide) ?c3 ?c4 ?c5 _ rfl ?_)
          case c1 => exact news_at wr [(i : Int)]
          case c2 => exact bcs_one _
          case c3 => unfold maxLen; omega
          case c4 => omega
          case c5 => simp; omega
          intro g2 c2 w3 ho3 hgr hat hlt
          have hB3 : Below w.heap.size w w3 := Below.grown (hnr.alloc (by omega) _) hgr (by simp; omega) (fun k hk => by have := (hoi.lt k hk).1; exact this)
          have HO3 : Hid (w3.ownsRow w.heap.size 5 1 (.slice (some ⟨g2, 0, none⟩) (4 + (i + 1)) c2) (4 + (i + 1)) (bcs (headB L ++ randB (i + 1)))) := by
            show World.ownsRow _ _ _ _ _ _ _
            rw [randB_succ, ← List.append_assoc, bcs_append]
            exact ho3
          clear hgr hat hlt hoi ho3
          go_wp2_with fail
          go_roundw
          case rel => exact ⟨i + 1, g2, c2, by omega, by go_num, by simp [Nat.add_assoc], HO3.out, hB3⟩
          case measure => simp [intOf]; omega
        · have hi' : i = 34 := by omega
          subst hi'
          go_wp2_with (at_builtin; refine wpList_append_lies _ rfl _ _ 22 rfl w.heap.size 5 i0 _ 1 1 Ybaf.underlying22 hi hz0 hz1 hz2 rfl (by decide) _ _ _ rfl (hoi.alloc _) ⟨wr.heap.size, 0, none⟩ 7 7 (bcs [0, 0, 2, 19, 1, 1, 0]) rfl rfl ?c1 ?c2 (by decide) ?c3 ?c4 ?c5 _ rfl ?_)
          case c1 => exact news_at wr [0, 0, 2, 19, 1, 1, 0]
          case c2 => exact bcs_one _
          case c3 => unfold maxLen; omega
          case c4 => omega
          case c5 => simp; omega
          intro g3 c3 w4 ho4 hgr hat hlt
          have hB4 : Below w.heap.size w w4 := Below.grown (hnr.alloc (by omega) _) hgr (by simp; omega) (fun k hk => by have := (hoi.lt k hk).1; exact this)
          have hs4 := hB4.size
          have ho4' : w4.ownsRow w.heap.size 5 1 (.slice (some ⟨g3, 0, none⟩) 45 c3) 45 (bcs (headB L ++ randB 34 ++ [0, 0, 2, 19, 1, 1, 0])) := by rw [bcs_append]; exact ho4
          clear hgr hat hlt ho4 hoi
          go_wp2_with (at_builtin; refine wpList_append_lies _ rfl _ _ 22 rfl w.heap.size 5 i0 _ 1 1 Ybaf.underlying22 hi hz0 hz1 hz2 rfl (by decide) _ _ _ rfl (ho4'.alloc _) ⟨w4.heap.size, 0, none⟩ 11 11 (bcs (extB L)) rfl rfl ?c1 ?c2 (by decide) ?c3 ?c4 ?c5 _ rfl ?_)
          case c1 => exact news_at w4 (extB L)
          case c2 => exact bcs_one _
          case c3 => unfold maxLen; omega
          case c4 => omega
          case c5 => simp; omega
          intro g4 c4 w5 ho5 hgr hat hlt
          have hB5 : Below w.heap.size w w5 := Below.grown (hB4.alloc (by omega) _) hgr (by simp; omega) (fun k hk => by have := (ho4'.lt k hk).1; exact this)
          have hs5 := hB5.size
          have ho5' : w5.ownsRow w.heap.size 5 1 (.slice (some ⟨g4, 0, none⟩) 56 c4) 56 (bcs (headB L ++ randB 34 ++ [0, 0, 2, 19, 1, 1, 0] ++ extB L)) := by rw [bcs_append]; exact ho5
          clear hgr hat hlt ho5 ho4'
          have hc5 := hc.below hB5
          have h56 : 56 ≤ 56 := Nat.le_refl _
          go_wp2_with fail
          go_loopw [6, 9] (fun u6 u9 wr => ∃ (i g c : Nat), i ≤ L ∧ u9 = .int .i64 i ∧ u6 = .slice (some ⟨g, 0, none⟩) (56 + i) c ∧ wr.ownsRow w.heap.size 5 1 (.slice (some ⟨g, 0, none⟩) (56 + i) c) (56 + i) (bcs (headB L ++ randB 34 ++ [0, 0, 2, 19, 1, 1, 0] ++ extB L ++ nameB raw i)) ∧ Below w.heap.size w wr)
            (fun _ i _ => L - (intOf i).toNat)
          case atStart => exact ⟨0, g4, c4, by omega, rfl, rfl, by simpa [nameB] using ho5', hB5⟩
          case round =>
            obtain ⟨i, g, c, hiL, rfl, rfl, hoi, hnr⟩ := hrel
            have hsr := hnr.size
            by_cases hlt : i < L
            · have hcr := hc.below hnr
              go_upto_if 82 with fail
              go_cut [10] (fun u10 wx => u10 = .int .u8 (nameC raw i) ∧ wx = wr)
              case first =>
                by_cases hil : i < len
                · obtain ⟨cc, hcc⟩ : ∃ cc, raw[i]? = some cc := ⟨raw[i]'(by have := HLN.out; omega), by simp⟩
                  obtain ⟨bb, bo, rfl, hcell, hcb1, hcb2⟩ := hcr i cc hcc
                  have HNC : Hid (nameC raw i = tab.getD (cc % 10).toNat 97) := by
                    show _ = _
                    unfold nameC; rw [hcc]; rfl
                  clear hcr hc hc5 hcc
                  have hil' : (i : Int) < (len : Int) := by omega
                  have hr10 : cc % 10 = 0 ∨ cc % 10 = 1 ∨ cc % 10 = 2 ∨ cc % 10 = 3 ∨ cc % 10 = 4 ∨ cc % 10 = 5 ∨ cc % 10 = 6 ∨ cc % 10 = 7 ∨ cc % 10 = 8 ∨ cc % 10 = 9 := by omega
                  rcases hr10 with hr | hr | hr | hr | hr | hr | hr | hr | hr | hr
                  all_goals
                    go_wp2_with fail
                    go_meet
                    case rel => exact ⟨by rw [HNC.out, hr]; rfl, rfl⟩
                · have HNC : Hid (nameC raw i = 97) := by
                    show _ = _
                    unfold nameC
                    rw [List.getElem?_eq_none (by have := HLN.out; omega)]; rfl
                  go_wp2_with fail
                  go_meet
                  case rel => exact ⟨by rw [HNC.out], rfl⟩
              case rest =>
                obtain ⟨rfl, rfl⟩ := hcut
                obtain ⟨wr, rfl⟩ : ∃ wr, wr = wc := ⟨wc, rfl⟩
                clear hcr hc5
                generalize hnc : nameC raw i = nc at *
                have HNC : Hid (nameC raw i = nc) := hnc
                clear hnc
                go_wp2_with (at_builtin; refine wpList_append_lies _ rfl _ _ 22 rfl w.heap.size 5 i0 _ 1 1 Ybaf.underlying22 hi hz0 hz1 hz2 rfl (by decide) _ _ _ rfl (hoi.alloc _) ⟨wr.heap.size, 0, none⟩ 1 1 (bcs [nc]) rfl rfl ?c1 ?c2 (by decide) ?c3 ?c4 ?c5 _ rfl ?_)
                case c1 => exact news_at wr [nc]
                case c2 => exact bcs_one _
                case c3 => unfold maxLen; omega
                case c4 => omega
                case c5 => simp; omega
                intro g5 c5 w6 ho6 hgr hat hlt
                have hB6 : Below w.heap.size w w6 := Below.grown (hnr.alloc (by omega) _) hgr (by simp; omega) (fun k hk => by have := (hoi.lt k hk).1; exact this)
                have HO6 : Hid (w6.ownsRow w.heap.size 5 1 (.slice (some ⟨g5, 0, none⟩) (56 + (i + 1)) c5) (56 + (i + 1)) (bcs (headB L ++ randB 34 ++ [0, 0, 2, 19, 1, 1, 0] ++ extB L ++ nameB raw (i + 1)))) := by
                  show World.ownsRow _ _ _ _ _ _ _
                  rw [nameB_succ, ← List.append_assoc, bcs_append, HNC.out]
                  exact ho6
                clear hgr hat hlt hoi ho6
                go_wp2_with fail
                go_roundw
                case rel => exact ⟨i + 1, g5, c5, by omega, by go_num, by simp [Nat.add_assoc], HO6.out, hB6⟩
                case measure => simp [intOf]; omega
            · have hi' : i = L := by omega
              subst hi'
              have HL' := HL.out
              subst HL'
              go_wp2_with fail
              go_ret2
              exact ⟨g, c, rfl, hnr, hoi⟩
end Go.Proofs.YbulkahqyFmt

import Derived.Test.YbulkahqyFmtMsg
namespace Go.Proofs.YbulkahqyFmt
open Go.RowKit
set_option linter.unusedSimpArgs false
set_option linter.unusedVariables false

/-- one record: its header and n bytes of the message from pos on -/
def recB (l : List Int) (pos n : Nat) : List Int := [22, 3, 1, (n : Int) / 256, (n : Int) % 256] ++ (l.drop pos).take n
def frameB (l : List Int) : Nat → List Nat → List Int
  | _, [] => []
  | pos, n :: ns => recB l pos n ++ frameB l (pos + n) ns
theorem frameB_snoc (l : List Int) (n : Nat) : ∀ (ns : List Nat) (pos : Nat), frameB l pos (ns ++ [n]) = frameB l pos ns ++ recB l (pos + ns.sum) n
  | [], pos => by simp [frameB]
  | a :: ns, pos => by
    show recB l pos a ++ frameB l (pos + a) (ns ++ [n]) = _
    rw [frameB_snoc l n ns (pos + a)]
    simp [frameB, Nat.add_assoc]

def SzOk (ns : List Nat) : Prop := ∀ n ∈ ns, 1 ≤ n ∧ n ≤ 311
theorem SzOk.snoc {ns : List Nat} (h : SzOk ns) {n : Nat} (hn : 1 ≤ n ∧ n ≤ 311) : SzOk (ns ++ [n]) := by
  intro x hx
  rw [List.mem_append] at hx
  rcases hx with hx | hx
  · exact h x hx
  · rw [List.mem_singleton] at hx; subst hx; exact hn

set_option maxHeartbeats 2000000 in
set_option maxRecDepth 100000 in
theorem frame_any (a : Option Addr) (gm cm cap M : Nat) (l sz : List Int) (w : World) (hl : l.length = M) (hM1 : 1 ≤ M) (hM2 : M ≤ 311) (hcm : M ≤ cm) (hmsg : ∀ j c, l[j]? = some c → w.cell? ⟨gm, j, none⟩ = some (.int .u8 c)) (hsz : sz.length ≤ 1024) (hc : BytesAt w a sz) :
    Calls Ybaf.prog 8 #[.slice (some ⟨gm, 0, none⟩) M cm, .slice a sz.length cap] w fun e w' => ∃ (g c len : Nat) (ns : List Nat), e = .returned (.tuple #[.slice (some ⟨g, 0, none⟩) len c, .int .i64 ns.length]) ∧ Below w.heap.size w w' ∧ SzOk ns ∧ ns.sum = M ∧ len = M + 5 * ns.length ∧
      w'.ownsRow w.heap.size 5 1 (.slice (some ⟨g, 0, none⟩) len c) len (bcs (frameB l 0 ns)) := by
  obtain ⟨i0, hi, hz0, hz1, hz2⟩ := info_parts Ybaf.infoB
  generalize hlen : sz.length = len at *
  have HLN : Hid (sz.length = len) := hlen
  have HL : Hid (l.length = M) := hl
  clear hlen hl
  obtain ⟨w1, hmk, hown0, hg0⟩ := run_makeSlice_owned (P := Ybaf.prog) w w.heap.size 22 5 i0 _ 1 Ybaf.underlying22 hi hz0 hz1 .i64 .i64 (M * 6 + 5) (by omega) (by rw [hz2]; omega) (by unfold maxLen; omega) (Nat.le_refl _)
  have ec : ((M * 6 + 5 : Nat) : Int) = (M : Int) * 6 + 5 := by omega
  rw [ec] at hmk
  have hB1 : Below w.heap.size w w1 := (Below.refl _ _).grown hg0 (Nat.le_refl _) (by intro k hk; cases hk)
  clear hg0 ec
  go_enter Ybaf.func8, Ybaf.ntmps8
  go_wp2_with fail
  clear hmk
  go_loopw [6, 7, 8, 9] (fun u6 u7 u8 u9 wr => ∃ (pos i g c ln : Nat) (ns : List Nat), pos ≤ M ∧ i ≤ pos ∧ u6 = .slice (some ⟨g, 0, none⟩) ln c ∧ u7 = .int .i64 ns.length ∧ u8 = .int .i64 pos ∧ u9 = .int .i64 i ∧ SzOk ns ∧ ns.sum = pos ∧ ns.length ≤ pos ∧ ln = pos + 5 * ns.length ∧
      wr.ownsRow w.heap.size 5 1 (.slice (some ⟨g, 0, none⟩) ln c) ln (bcs (frameB l 0 ns)) ∧ Below w.heap.size w wr)
    (fun _ _ p _ _ => M - (intOf p).toNat)
  case atStart => exact ⟨0, 0, _, _, 0, [], Nat.zero_le _, Nat.le_refl _, rfl, rfl, rfl, rfl, fun n hn => by simp at hn, rfl, Nat.le_refl _, rfl, by simpa [frameB, bcs] using hown0, hB1⟩
  case round =>
    obtain ⟨pos, i, g, c, ln, ns, hp, hip, rfl, rfl, rfl, rfl, hok, hsum, hnp, hln, hog, hnr⟩ := hrel
    have HS : Hid (ns.sum = pos) := hsum
    have HLL : Hid (ln = pos + 5 * ns.length) := hln
    have hlnb : ln ≤ 2000 := by omega
    clear hsum hln
    have hsr := hnr.size
    by_cases hlt : pos < M
    · have hcr := hc.below hnr
      have hmr : ∀ j c, l[j]? = some c → wr.cell? ⟨gm, j, none⟩ = some (.int .u8 c) := fun j c h => cell_kept hnr (hmsg j c h)
      have hgmn : ∀ j c, l[j]? = some c → gm ≠ g := fun j c h he => by
        have h1 := World.block_lt_of_cell? w _ (hmsg j c h)
        have h2 := (hog.lt g rfl).1
        have h3 : gm < w.heap.size := h1
        omega
      clear hc hmsg hB1 hown0
      go_upto_if 28 with fail
      go_cut [10] (fun u10 wx => ∃ n : Nat, u10 = .int .i64 n ∧ 1 ≤ n ∧ pos + n ≤ M ∧ wx = wr)
      case first =>
        by_cases hil : i < len
        · obtain ⟨cc, hcc⟩ : ∃ cc, sz[i]? = some cc := ⟨sz[i]'(by have := HLN.out; omega), by simp⟩
          obtain ⟨bb, bo, rfl, hcell, hcb1, hcb2⟩ := hcr i cc hcc
          clear hcr hcc hmr
          have hil' : (i : Int) < (len : Int) := by omega
          obtain ⟨q, hq⟩ : ∃ q : Nat, cc % 64 = (q : Int) := ⟨(cc % 64).toNat, by omega⟩
          have hq63 : q ≤ 63 := by omega
          by_cases hk : 1 + q < M - pos
          · have hk' : 1 + (q : Int) < (M : Int) - (pos : Int) := by omega
            go_wp2_with fail
            go_meet
            case rel => exact ⟨1 + q, by simp, by omega, by omega, rfl⟩
          · have hk' : ¬ (1 + (q : Int) < (M : Int) - (pos : Int)) := by omega
            go_wp2_with fail
            go_meet
            case rel => exact ⟨M - pos, by simp; omega, by omega, by omega, rfl⟩
        · go_wp2_with fail
          go_meet
          case rel => exact ⟨M - pos, by simp; omega, by omega, by omega, rfl⟩
      case rest =>
        obtain ⟨n, rfl, hn1, hn2, rfl⟩ := hcut
        obtain ⟨wr, rfl⟩ : ∃ wr, wr = wc := ⟨wc, rfl⟩
        clear hcr
        go_wp2_with (at_builtin; refine wpList_append_lies _ rfl _ _ 22 rfl w.heap.size 5 i0 _ 1 1 Ybaf.underlying22 hi hz0 hz1 hz2 rfl (by decide) _ _ _ rfl (hog.alloc _) ⟨wr.heap.size, 0, none⟩ 5 5 (bcs [22, 3, 1, (n : Int) / 256, (n : Int) % 256]) rfl rfl ?c1 ?c2 (by decide) ?c3 ?c4 ?c5 _ rfl ?_)
        case c1 => exact news_at wr [22, 3, 1, (n : Int) / 256, (n : Int) % 256]
        case c2 => exact bcs_one _
        case c3 => unfold maxLen; omega
        case c4 => omega
        case c5 => simp; omega
        intro g1 cc1 w2 ho2 hgr hat hlt2
        have hB2 : Below w.heap.size w w2 := Below.grown (hnr.alloc (by omega) _) hgr (by simp; omega) (fun k hk => (hog.lt k hk).1)
        have hs2 := hB2.size
        have hne0 : cm ≠ pos := by omega
        have hne0' : ¬ cm = pos := hne0
        have hgm : ∀ j x, l[j]? = some x → w2.cell? ⟨gm, j, none⟩ = some (.int .u8 x) := fun j x h => by
          refine hgr.cell (by rw [World.cell?_alloc_past _ _ _ (World.block_lt_of_cell? wr _ (hmr j x h))]; exact hmr j x h) ?_
          intro he
          have h1 : some gm = (Value.slice (some ⟨g, 0, none⟩) ln c).ownBlock := he
          exact hgmn j x h (by simpa [Value.ownBlock] using h1)
        clear hgr hat hlt2 hog hmr
        have hpn : (pos : Int) + (n : Int) ≤ (cm : Int) := by omega
        have HPN : Hid (pos + n - pos = n) := by show _ = _; omega
        go_wp2_with (at_builtin; (refine wpList_append_lies _ rfl _ _ 22 rfl w.heap.size 5 i0 _ 1 1 Ybaf.underlying22 hi hz0 hz1 hz2 rfl (by decide) _ _ _ rfl ho2 ⟨gm, pos, none⟩ (pos + n - pos) (cm - pos) (bcs ((l.drop pos).take n)) rfl ?d0 ?d1 ?d2 (by omega) ?d3 ?d4 ?d5 _ rfl ?_))
        case d0 => simp [bcs]; have := HL.out; omega
        case d1 =>
          intro j u hj
          have e : (⟨gm, pos, none⟩ : Addr).add j = ⟨gm, pos + j, none⟩ := by unfold Addr.add; split <;> simp_all
          rw [e]
          simp only [bcs, List.getElem?_map, Option.map_eq_some_iff] at hj
          obtain ⟨x, hx, rfl⟩ := hj
          have hjn : j < n := by have := (List.getElem?_eq_some_iff.1 hx).1; simp at this; omega
          rw [List.getElem?_take_of_lt hjn, List.getElem?_drop] at hx
          exact hgm (pos + j) x hx
        case d2 => exact bcs_one _
        case d3 => unfold maxLen; omega
        case d4 => omega
        case d5 => omega
        intro g3 cc3 w3 ho3 hgr3 hat3 hlt3
        have hB3 : Below w.heap.size w w3 := Below.grown hB2 hgr3 (by omega) (fun k hk => (ho2.lt k hk).1)
        have HO3 : Hid (w3.ownsRow w.heap.size 5 1 (.slice (some ⟨g3, 0, none⟩) (ln + 5 + n) cc3) (ln + 5 + n) (bcs (frameB l 0 (ns ++ [n])))) := by
          show World.ownsRow _ _ _ _ _ _ _
          rw [frameB_snoc, Nat.zero_add, HS.out, recB, bcs_append, bcs_append]
          exact ho3
        clear hgr3 hat3 hlt3 ho2 ho3 hgm
        go_wp2_with fail
        go_roundw
        case rel => exact ⟨pos + n, i + 1, g3, cc3, ln + 5 + n, ns ++ [n], by omega, by omega, rfl, by simp, by simp, by go_num, hok.snoc ⟨hn1, by omega⟩, by simp [HS.out], by simp; omega, by have := HLL.out; simp; omega, HO3.out, hB3⟩
        case measure => simp [intOf]; omega
    · have hpM : pos = M := by omega
      subst hpM
      go_wp2_with fail
      go_ret2
      exact ⟨g, c, ln, ns, rfl, hnr, hok, HS.out, HLL.out, hog⟩
end Go.Proofs.YbulkahqyFmt

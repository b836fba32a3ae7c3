import Derived.Test.YbulkahqyFmtHdr
import Derived.Test.YbulkahqyFmtMsgOk
import Derived.Test.YbulkahqyFmtFrame
namespace Go.Proofs.YbulkahqyFmt
open Go.RowKit
set_option linter.unusedSimpArgs false
set_option linter.unusedVariables false

theorem frameB_append (l : List Int) : ∀ (a b : List Nat) (p : Nat), frameB l p (a ++ b) = frameB l p a ++ frameB l (p + a.sum) b
  | [], b, p => by simp [frameB]
  | x :: a, b, p => by
    show recB l p x ++ frameB l (p + x) (a ++ b) = _
    rw [frameB_append l a b (p + x)]
    simp [frameB, Nat.add_assoc]
theorem recB_length (l : List Int) (p n : Nat) (h : p + n ≤ l.length) : (recB l p n).length = 5 + n := by
  simp [recB]; omega
theorem frameB_length (l : List Int) : ∀ (a : List Nat) (p : Nat), p + a.sum ≤ l.length → (frameB l p a).length = a.sum + 5 * a.length
  | [], p, _ => by simp [frameB]
  | x :: a, p, h => by
    simp only [List.sum_cons] at h
    show (recB l p x ++ frameB l (p + x) a).length = _
    rw [List.length_append, recB_length l p x (by omega), frameB_length l a (p + x) (by omega)]
    simp; omega
theorem frame_at (l : List Int) (dn rest : List Nat) (n : Nat) (h : dn.sum + n ≤ l.length) (j : Nat) (hj : j < 5 + n) : (frameB l 0 (dn ++ n :: rest))[dn.sum + 5 * dn.length + j]? = (recB l dn.sum n)[j]? := by
  rw [frameB_append, Nat.zero_add]
  have hl := frameB_length l dn 0 (by omega)
  rw [List.getElem?_append_right (by omega), hl, show dn.sum + 5 * dn.length + j - (dn.sum + 5 * dn.length) = j by omega]
  show (recB l dn.sum n ++ frameB l (dn.sum + n) rest)[j]? = _
  rw [List.getElem?_append_left (by rw [recB_length l _ _ h]; exact hj)]
theorem recB_pay (l : List Int) (p n j : Nat) (hj : j < n) (h : p + n ≤ l.length) : (recB l p n)[5 + j]? = some (mAt l (p + j)) := by
  unfold recB
  rw [List.getElem?_append_right (by simp)]
  simp only [List.length_cons, List.length_nil]
  rw [show 5 + j - (0 + 1 + 1 + 1 + 1 + 1) = j by omega, List.getElem?_take_of_lt hj, List.getElem?_drop]
  unfold mAt
  rw [List.getD_eq_getElem?_getD, List.getElem?_eq_getElem (by omega)]
  rfl

set_option maxHeartbeats 4000000 in
set_option maxRecDepth 100000 in
theorem scan_ok {w : World} {b gi N cap L M : Nat} {l : List Int} {ns : List Nat} {t0 t1 t2 : ByteArray} (hm : MsgOk (mAt l) L) (hl : l.length = M) (hML : M = 56 + L) (hsz : SzOk ns) (hsum : ns.sum = M) (h : Blk w b (fs 0 0 0 L 0 0 0)) (hlg : Leg w 2 t0 t1 t2) (h2b : 2 ≠ b) (hgb : gi ≠ b) (hNc : N ≤ cap) (hN : N ≤ 10000)
    (hcell : ∀ j x, j < N → (frameB l 0 ns)[j]? = some x → w.cell? ⟨gi, j, none⟩ = some (.int .u8 x)) :
    Calls Ybaf.prog 9 #[.pointer (some ⟨b, 0, none⟩), .slice (some ⟨gi, 0, none⟩) N cap] w fun e w' => G b w w' ∧
      ((M + 5 * ns.length ≤ N ∧ e = .returned (.tuple #[.bool true, .nilIface]) ∧ ∃ v, Blk w' b (fs (M + 5 * ns.length : Nat) ns.length 0 L 17 M v)) ∨ (N < M + 5 * ns.length ∧ e = .returned (.tuple #[.bool false, .nilIface]))) := by
  go_enter Ybaf.func9, Ybaf.ntmps9
  go_wp2_with fail
  go_loopg [6] ns.length (fun g u wr => ∃ (dn rest : List Nat) (k : Nat), g = rest.length ∧ ns = dn ++ rest ∧ rest ≠ [] ∧ dn.sum + 5 * dn.length ≤ N ∧ In L k dn.sum ∧ Blk wr b (fs (dn.sum + 5 * dn.length : Nat) dn.length 0 L k dn.sum (vOf (mAt l) L k dn.sum)) ∧ G b w wr)
  case atStart =>
    refine ⟨[], ns, 0, rfl, rfl, ?_, by simp, ⟨by omega, by simp [fromN], by simp [tillL]⟩, ?_, G.refl b w⟩
    · intro hn; rw [hn] at hsum; simp at hsum; omega
    · simpa [vOf_from (mAt l) L 0, show vOf (mAt l) L 0 0 = 0 from vOf_from (mAt l) L 0] using h
  case round =>
    obtain ⟨dn, rest, k, hgk, hns, hne, hoff, hik, hb, hg⟩ := hrel
    obtain ⟨n, rest', rfl⟩ : ∃ n r, rest = n :: r := by cases rest with | nil => exact absurd rfl hne | cons n r => exact ⟨n, r, rfl⟩
    obtain ⟨hn1, hn2⟩ := hsz n (by rw [hns]; simp)
    have hps : dn.sum + n + rest'.sum = M := by rw [← hsum, hns]; simp; omega
    have hcl : ∀ j x, dn.sum + 5 * dn.length + j < N → j < 5 + n → (recB l dn.sum n)[j]? = some x → wr.cell? ⟨gi, dn.sum + 5 * dn.length + j, none⟩ = some (.int .u8 x) := fun j x h1 h2 h3 =>
      hg.cell (hcell _ x h1 (by rw [hns, frame_at l dn rest' n (by omega) j h2]; exact h3)) hgb
    have hlr := hlg.of hg h2b
    have HP : Hid (dn.sum + n + rest'.sum = M) := hps
    have HNS : Hid (ns = dn ++ n :: rest') := hns
    have HGK : Hid (gk = rest'.length + 1) := by show _ = _; rw [hgk]; rfl
    have hd1000 : dn.length ≤ dn.sum := by
      have h0 : ∀ n ∈ dn, 1 ≤ n := fun x hx => (hsz x (by rw [hns]; simp [hx])).1
      clear hcl hb hoff hik hps HP HNS HGK hgk hns
      induction dn with
      | nil => simp
      | cons a d ih => have := ih (fun x hx => h0 x (by simp [hx])); have := h0 a (by simp); simp; omega
    generalize ho : dn.sum + 5 * dn.length = off at *
    have HO : Hid (dn.sum + 5 * dn.length = off) := ho
    obtain ⟨R, rfl⟩ : ∃ R, N = off + R := ⟨N - off, by omega⟩
    obtain ⟨C, rfl⟩ : ∃ C, cap = off + C := ⟨cap - off, by omega⟩
    have hRC : R ≤ C := by omega
    have hpb : dn.sum ≤ 311 := by have := hm.l2; omega
    clear ho hps hgk hns hne
    generalize hpos : dn.sum = pos at *
    have HPOS : Hid (dn.sum = pos) := hpos
    clear hpos
    generalize hdl : dn.length = dl at *
    have HDL : Hid (dn.length = dl) := hdl
    clear hdl
    obtain ⟨c0, c1, c2, c3, c4, c5, c6, c7, c8, c9, c10, c11, c12, c14⟩ := hb.cs
    simp only [fs] at c0 c1 c2
    have hoN : (off : Int) ≤ ((off : Int) + (R : Int)) := by omega
    go_wp2_with fail
    go_quiet (fail)
    obtain ⟨o, hform, ho2⟩ : ∃ o, (if C = 0 then some (⟨gi, 0, none⟩ : Addr) else some ⟨gi, off, none⟩) = some ⟨gi, o, none⟩ ∧ (0 < R → o = off) := by
      by_cases hcz : C = 0
      · exact ⟨0, by rw [if_pos hcz], fun h => by omega⟩
      · exact ⟨off, by rw [if_neg hcz], fun _ => rfl⟩
    simp only [hform]
    clear hform
    have hTN : off + 5 + n ≤ M + 5 * ns.length := by
      have h1 := HP.out
      have h2 := HNS.out
      have h3 := HO.out
      have h4 : ns.length = dl + 1 + rest'.length := by rw [h2, List.length_append, HDL.out]; simp; omega
      omega
    have zb : Blk (wr.drewN nq) b (fs off dl 0 L k pos (vOf (mAt l) L k pos)) := hb
    have zg : G b w (wr.drewN nq) := hg.drewN nq
    have zl : Leg (wr.drewN nq) 2 t0 t1 t2 := hlg.of zg h2b
    have zc : ∀ j x, j < R → j < 5 + n → (recB l pos n)[j]? = some x → (wr.drewN nq).cell? ⟨gi, off + j, none⟩ = some (.int .u8 x) := fun j x h1 h2 h3 => hcl j x (by omega) h2 h3
    clear hb hg hlr hcl c0 c1 c2 c3 c4 c5 c6 c7 c8 c9 c10 c11 c12 c14 hcell
    generalize wr.drewN nq = wz at *
    have hH := header_ok (w := wz) (gi := gi) (o := o) (R := R) (c := C) (n := n) ((dl : Int) + 1) hn1 hn2 (fun h => by rw [ho2 (by omega)]; exact zc 0 22 (by omega) (by omega) rfl) (fun h => by rw [ho2 (by omega)]; exact zc 1 3 (by omega) (by omega) rfl) (fun h => by rw [ho2 (by omega)]; exact zc 2 1 (by omega) (by omega) rfl)
      (fun h => by rw [ho2 (by omega)]; exact zc 3 _ (by omega) (by omega) rfl) (fun h => by rw [ho2 (by omega)]; exact zc 4 _ (by omega) (by omega) rfl)
    by_cases h5 : R < 5
    · have h5' : (R : Int) < 5 := by omega
      go_wp2_with (go_at_call 13; refine hH.mono ?_; rintro e w' ⟨rfl, m, rfl⟩)
      go_ret2
      exact ⟨zg.drewN m, .inr ⟨by omega, rfl⟩⟩
    · obtain ⟨Q, rfl⟩ : ∃ Q, R = 5 + Q := ⟨R - 5, by omega⟩
      obtain ⟨D, rfl⟩ : ∃ D, C = 5 + D := ⟨C - 5, by omega⟩
      have hoo := ho2 (by omega)
      subst hoo
      have hP := fun m => payload_ok (w := wz.drewN m) (gi := gi) (o := o) (R := 5 + Q) (c := 5 + D) (n := n) (by omega) hn2 (zc 3 _ (by omega) (by omega) rfl) (zc 4 _ (by omega) (by omega) rfl)
      have h5' : ¬ ((5 : Int) + (Q : Int) < 5) := by omega
      go_upto_region 8 with (first | (go_at_call 13; refine hH.mono ?_; rintro e w' ⟨rfl, m, rfl⟩) | (go_at_call 14; refine (hP _).mono ?_; rintro e w' ⟨rfl, m2, rfl⟩))
      have yb : Blk (wz.drewN (m + m2)) b (fs o dl 0 L k pos (vOf (mAt l) L k pos)) := zb
      have yg : G b w (wz.drewN (m + m2)) := zg.drewN _
      have yl : Leg (wz.drewN (m + m2)) 2 t0 t1 t2 := hlg.of yg h2b
      have yc : ∀ j, j < Q → j < n → (wz.drewN (m + m2)).cell? ⟨gi, o + 5 + j, none⟩ = some (.int .u8 (mAt l (pos + j))) := fun j h1 h2 => by
        have := zc (5 + j) _ (by omega) (by omega) (recB_pay l pos n j h2 (by have := HP.out; omega))
        rw [Nat.add_assoc]; exact this
      clear zb zg zl zc hH hP
      generalize wz.drewN (m + m2) = wy at *
      obtain ⟨q, hq⟩ : ∃ q, q = min Q n := ⟨_, rfl⟩
      have hq1 : q ≤ Q := by omega
      have hq2 : q ≤ n := by omega
      have hqD : q ≤ D := by omega
      have HQ : Hid (q = min Q n) := hq
      clear hq
      go_cut [10] (fun u10 wc => ∃ o5, u10 = .slice (some ⟨gi, o5, none⟩) q D ∧ (0 < q → o5 = o + 5) ∧ wc = wy)
      case first =>
        by_cases hQn : Q ≤ n
        · have hqq : q = Q := by have := HQ.out; omega
          clear HQ
          subst hqq
          have hle : (5 : Int) + (q : Int) ≤ 5 + (n : Int) := by omega
          have hle2 : (5 : Int) + (q : Int) ≤ 5 + (D : Int) := by omega
          by_cases hD : D = 0
          · subst hD
            have hq0 : q = 0 := by omega
            subst hq0
            go_wp2_with fail
            go_meet
            case rel => exact ⟨o, by simp, fun h => by omega, rfl⟩
          · go_wp2_with fail
            go_meet
            case rel => exact ⟨o + 5, by simp, fun _ => rfl, rfl⟩
        · have hqq : q = n := by have := HQ.out; omega
          clear HQ
          subst hqq
          have hle : ¬ ((5 : Int) + (Q : Int) ≤ 5 + (q : Int)) := by omega
          have hlt : (5 : Int) + (q : Int) < 5 + (Q : Int) := by omega
          have hle2 : (5 : Int) + (q : Int) ≤ 5 + (D : Int) := by omega
          have hD : ¬ D = 0 := by omega
          go_wp2_with fail
          go_meet
          case rel => exact ⟨o + 5, by simp, fun _ => rfl, rfl⟩
      case rest =>
        obtain ⟨o5, rfl, ho5, hwe⟩ := hcut
        subst hwe
        obtain ⟨wy, rfl⟩ : ∃ wy, wy = wc := ⟨wc, rfl⟩
        have hF := feed_ok (w := wy.drew) (b := b) (bb := gi) (bo := o5) (len := q) (cap := D) (k0 := k) (p0 := pos) (off := o) (rc := dl) (fed := 0) hm yb hik (hlg.of yg.drew h2b) h2b hgb hqD (by have := HP.out; omega) (fun j hj => by
          have h1 := yc j (by omega) (by omega)
          rw [ho5 (by omega)]; exact h1)
        obtain ⟨c0, c1, c2, c3, c4, c5, c6, c7, c8, c9, c10, c11, c12, c14⟩ := yb.cs
        simp only [fs] at c0 c1 c2
        have hbl := yb.lt
        go_upto_region 9 with fail
        go_cut [11] (fun u11 wd => u11 = .nilIface ∧ G b w wd ∧ ∃ k', In L k' (pos + q) ∧ (k' = 17 ∨ pos + q < tillL L k') ∧ Blk wd b (fs o dl 0 L k' (pos + q : Nat) (vOf (mAt l) L k' (pos + q))))
        case first =>
          clear yc
          go_region_with (go_at_call 15; refine hF.mono ?_; rintro e w' ⟨rfl, hgf, k', hk', hst, hbf⟩)
          all_goals
            go_wp2_with fail
            go_meet
            case rel => exact ⟨rfl, (yg.drew).trans hgf, k', hk', hst, hbf⟩
        case rest =>
          obtain ⟨wd, rfl⟩ : ∃ wd, wd = wc := ⟨wc, rfl⟩
          obtain ⟨rfl, hgd, k', hk', hst, hbd⟩ := hcut
          clear yb yg yl yc hF c0 c1 c2 c3 c4 c5 c6 c7 c8 c9 c10 c11 c12 c14 hbl
          obtain ⟨c0, c1, c2, c3, c4, c5, c6, c7, c8, c9, c10, c11, c12, c14⟩ := hbd.cs
          simp only [fs] at c0 c1 c2 c3
          have f0 := hbd.free 0
          have f1 := hbd.free 1
          have f2 := hbd.free 2
          by_cases hqn : q < n
          · have hqn' : (q : Int) < (n : Int) := by omega
            go_wp2_with fail
            go_ret2
            exact ⟨hgd.set 2 _, .inr ⟨by have := HQ.out; omega, rfl⟩⟩
          · have hqe : q = n := by omega
            subst hqe
            have hnn : ¬ ((q : Int) < (q : Int)) := by omega
            have hlast : k' = 17 ↔ rest' = [] := by
              have hp := HP.out
              obtain ⟨hk1, hk2, hk3⟩ := hk'
              constructor
              · intro hk; subst hk
                have h56 : fromN L 17 = 56 + L := rfl
                cases rest' with
                | nil => rfl
                | cons a r =>
                  have := (hsz a (by rw [HNS.out]; simp)).1
                  simp at hp; omega
              · intro hr; subst hr
                simp at hp
                rcases hst with h | h
                · exact h
                · have := till_le L k'; omega
            by_cases hk17 : k' = 17
            · subst hk17
              have hr0 := hlast.1 rfl
              have hst17 : stepN 17 = 17 := rfl
              rw [hst17] at c3
              have hnl : ns.length = dl + 1 := by rw [HNS.out, List.length_append, HDL.out, hr0]; simp
              have hpq : pos + q = 56 + L := by have := HP.out; rw [hr0] at this; simp at this; omega
              have hoo := HO.out
              have HE : Hid (ns.length = dl + 1 ∧ pos + q = 56 + L ∧ pos + 5 * dl = o) := ⟨hnl, hpq, hoo⟩
              clear hnl hpq hoo hr0 hlast
              go_wp2_with fail
              go_ret2
              obtain ⟨e1, e2, e3⟩ := HE.out
              refine ⟨(((hgd.set 2 _).set 0 _).set 1 _).set 2 _, .inl ⟨by omega, rfl, vOf (mAt l) L 17 (pos + q), ?_⟩⟩
              refine ((((hbd.set2 _).set0 _).set1 _).set2 _).cast ?_
              simp only [fs, Fr.mk.injEq]
              refine ⟨by omega, by omega, trivial, trivial, trivial, by omega, by omega, trivial, trivial, trivial, trivial, trivial, trivial⟩
            · have hrn : rest' ≠ [] := fun h => hk17 (hlast.2 h)
              have hst17 := (step_range hk'.1).2.2.1 hk17
              have hst17' : (stepN k' == 17) = false := by simpa using hst17
              have HHB : Hid (Blk wd b (fs o dl 0 L k' (pos + q : Nat) (vOf (mAt l) L k' (pos + q)))) := hbd
              clear hbd hlast hst17
              generalize stepN k' = st at *
              go_wp2_with fail
              go_roundg rest'.length
              case measure => have := HGK.out; omega
              case rel =>
                have e1 := HO.out
                have e2 := HPOS.out
                have e3 := HDL.out
                refine ⟨dn ++ [q], rest', k', rfl, by rw [HNS.out]; simp, hrn, by simp [e2, e3]; omega, by simpa [e2] using hk', ?_, (((hgd.set 2 _).set 0 _).set 1 _).set 2 _⟩
                refine ((((HHB.out.set2 _).set0 _).set1 _).set2 _).cast ?_
                have e4 : (dn ++ [q]).sum = pos + q := by simp [e2]
                have e5 : (dn ++ [q]).length = dl + 1 := by simp [e3]
                rw [e4, e5]
                simp only [fs, Fr.mk.injEq]
                refine ⟨by omega, by omega, trivial, trivial, trivial, trivial, trivial, trivial, trivial, trivial, trivial, trivial, trivial⟩
end Go.Proofs.YbulkahqyFmt

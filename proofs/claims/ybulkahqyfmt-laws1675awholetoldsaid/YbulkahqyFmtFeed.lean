import Derived.Test.YbulkahqyFmtNextOk
import Derived.Deep.LoopGhost
import Derived.Laws.BitsAllLaws
namespace Go.Proofs.YbulkahqyFmt
open Go.RowKit
set_option linter.unusedSimpArgs false

/-- the number that c bytes from place a on read as -/
def numv (m : Nat → Int) (a : Nat) : Nat → Int
  | 0 => 0
  | c + 1 => numv m a c * 256 + m (a + c)

def fromN (L : Nat) (k : Nat) : Nat := [0, 0, 1, 4, 38, 39, 39, 41, 43, 44, 45, 47, 49, 51, 53, 54, 56].getD k (56 + L)
def tillL (L : Nat) (k : Nat) : Nat := [0, 1, 4, 38, 39, 39, 41, 43, 44, 45, 47, 49, 51, 53, 54, 56, 56 + L].getD k (56 + L)
def isNum (k : Nat) : Bool := !(k == 3 || k == 5 || k == 7 || k == 9 || k == 16)

theorem tillL_cast (L k : Nat) : tillN L k = (tillL L k : Int) := by
  unfold tillN tillL
  match k with
  | 0 | 1 | 2 | 3 | 4 | 5 | 6 | 7 | 8 | 9 | 10 | 11 | 12 | 13 | 14 | 15 | 16 | 17 => simp
  | k + 18 => simp
theorem from_till (L k : Nat) : fromN L (k + 1) = tillL L k := by
  unfold fromN tillL
  match k with
  | 0 | 1 | 2 | 3 | 4 | 5 | 6 | 7 | 8 | 9 | 10 | 11 | 12 | 13 | 14 | 15 | 16 => simp
  | k + 17 => simp
theorem till_le (L k : Nat) : tillL L k ≤ 56 + L := by
  unfold tillL
  match k with
  | 0 | 1 | 2 | 3 | 4 | 5 | 6 | 7 | 8 | 9 | 10 | 11 | 12 | 13 | 14 | 15 | 16 => simp <;> omega
  | k + 17 => simp

/-- A well-formed message, byte by byte. -/
structure MsgOk (m : Nat → Int) (L : Nat) : Prop where
  byte : ∀ i, 0 ≤ m i ∧ m i ≤ 255
  name : ∀ i, 56 ≤ i → i < 56 + L → 33 ≤ m i ∧ m i ≤ 126
  val : ∀ k, k ≤ 16 → isNum k = true → numv m (fromN L k) (tillL L k - fromN L k) = valN L k
  l1 : 1 ≤ L
  l2 : L ≤ 255

theorem numv_bound {m : Nat → Int} {L : Nat} (h : MsgOk m L) (a : Nat) : ∀ c, c ≤ 3 → 0 ≤ numv m a c ∧ numv m a c < 256 ^ c := by
  intro c
  induction c with
  | zero => intro _; simp [numv]
  | succ c ih =>
    intro hc
    obtain ⟨h1, h2⟩ := ih (by omega)
    have := h.byte (a + c)
    have hp : (256 : Int) ^ (c + 1) = 256 ^ c * 256 := Int.pow_succ 256 c
    rw [hp]
    simp only [numv]
    constructor
    · omega
    · omega

theorem or_byte (n c : Int) (h0 : 0 ≤ n) (h1 : n < 65536) (h2 : 0 ≤ c) (h3 : c ≤ 255) : bits .or .i64 (n * 256) c = n * 256 + c := by
  obtain ⟨a, rfl⟩ := Int.eq_ofNat_of_zero_le h0
  obtain ⟨d, rfl⟩ := Int.eq_ofNat_of_zero_le h2
  have e : (a : Int) * 256 = ((a * 256 : Nat) : Int) := by omega
  have ho : a * 256 ||| d = a * 256 + d := by
    have := Nat.shiftLeft_add_eq_or_of_lt (show d < 2 ^ 8 by omega) a
    rw [Nat.shiftLeft_eq] at this
    exact this.symm
  rw [e]
  show IntKind.i64.wrap ((BitVec.ofInt 64 ((a * 256 : Nat) : Int) ||| BitVec.ofInt 64 (d : Int)).toNat : Int) = _
  rw [BitVec.toNat_or, ofInt_u64 _ (by omega), ofInt_u64 d (by omega), ho]
  simp [IntKind.wrap, IntKind.bits, IntKind.signed]
  omega

/-- field k, p bytes read, the number so far as the bytes say -/
def vOf (m : Nat → Int) (L k p : Nat) : Int := if isNum k then numv m (fromN L k) (p - fromN L k) else 0
def In (L k p : Nat) : Prop := k ≤ 17 ∧ fromN L k ≤ p ∧ p ≤ tillL L k

theorem k17 {k : Nat} (h : k ≤ 17) : k = 0 ∨ k = 1 ∨ k = 2 ∨ k = 3 ∨ k = 4 ∨ k = 5 ∨ k = 6 ∨ k = 7 ∨ k = 8 ∨ k = 9 ∨ k = 10 ∨ k = 11 ∨ k = 12 ∨ k = 13 ∨ k = 14 ∨ k = 15 ∨ k = 16 ∨ k = 17 := by omega
theorem step_range {k : Nat} (h : k ≤ 17) : 0 ≤ stepN k ∧ stepN k ≤ 17 ∧ (k ≠ 17 → stepN k ≠ 17) ∧ (!(stepN k == 3 || stepN k == 5 || stepN k == 9 || stepN k == 13 || stepN k == 16)) = isNum k ∧ ((stepN k == 13) = (k == 16)) := by
  rcases k17 h with rfl | rfl | rfl | rfl | rfl | rfl | rfl | rfl | rfl | rfl | rfl | rfl | rfl | rfl | rfl | rfl | rfl | rfl <;> decide
theorem number_k {k : Nat} (h : k ≤ 17) (w : World) : Calls Ybaf.prog 23 #[.int .u8 (stepN k)] w fun e w' => e = .returned (.bool (isNum k)) ∧ w' = w := by
  obtain ⟨h1, h2, _, h4, _⟩ := step_range h
  rw [← h4]
  exact number_ok _ w h1 h2
theorem vOf_till {m : Nat → Int} {L k : Nat} (hm : MsgOk m L) (hk : k ≤ 16) : vOf m L k (tillL L k) = valN L k := by
  unfold vOf
  cases hn : isNum k with
  | true => rw [if_pos rfl]; exact hm.val k hk hn
  | false =>
    rw [if_neg (by simp)]
    have : k = 3 ∨ k = 5 ∨ k = 7 ∨ k = 9 ∨ k = 16 := by
      simp [isNum] at hn; omega
    rcases this with rfl | rfl | rfl | rfl | rfl <;> rfl
theorem vOf_from (m : Nat → Int) (L k : Nat) : vOf m L k (fromN L k) = 0 := by
  unfold vOf; split <;> simp [numv]
theorem width3 {L k : Nat} (hn : isNum k = true) (hk : k ≤ 16) : tillL L k ≤ fromN L k + 3 := by
  rcases k17 (show k ≤ 17 by omega) with rfl | rfl | rfl | rfl | rfl | rfl | rfl | rfl | rfl | rfl | rfl | rfl | rfl | rfl | rfl | rfl | rfl | rfl <;> simp [isNum, tillL, fromN] at hn ⊢

set_option maxHeartbeats 4000000 in
set_option maxRecDepth 100000 in
theorem feed_ok {w : World} {b bb bo len cap L k0 p0 : Nat} {m : Nat → Int} {off rc fed : Int} {t0 t1 t2 : ByteArray} (hm : MsgOk m L) (h : Blk w b (fs off rc fed L k0 p0 (vOf m L k0 p0))) (hin : In L k0 p0) (hl : Leg w 2 t0 t1 t2) (h2b : 2 ≠ b) (hbb : bb ≠ b)
    (hc : len ≤ cap) (hlen : p0 + len ≤ 56 + L) (hcell : ∀ j, j < len → w.cell? ⟨bb, bo + j, none⟩ = some (.int .u8 (m (p0 + j)))) :
    Calls Ybaf.prog 15 #[.pointer (some ⟨b, 3, none⟩), .slice (some ⟨bb, bo, none⟩) len cap] w fun e w' => e = .returned .nilIface ∧ G b w w' ∧ ∃ k, In L k (p0 + len) ∧ (k = 17 ∨ p0 + len < tillL L k) ∧ Blk w' b (fs off rc fed L k (p0 + len : Nat) (vOf m L k (p0 + len))) := by
  go_enter Ybaf.func15, Ybaf.ntmps15
  go_wp2_with fail
  go_loopg [1] (17 - k0 + len) (fun g u wr => ∃ (k p rem o cp : Nat), g = 17 - k + rem ∧ u = .slice (some ⟨bb, o, none⟩) rem cp ∧ rem ≤ cp ∧ p + rem = p0 + len ∧ p0 ≤ p ∧ (0 < rem → o = bo + (p - p0)) ∧ In L k p ∧ Blk wr b (fs off rc fed L k p (vOf m L k p)) ∧ G b w wr)
  case atStart => exact ⟨k0, p0, len, bo, cap, rfl, rfl, hc, rfl, Nat.le_refl _, fun _ => by omega, hin, h, G.refl b w⟩
  case round =>
    obtain ⟨k, p, rem, o, cp, hgk, rfl, hrc, hpr, hp0, ho, hik, hb, hg⟩ := hrel
    obtain ⟨hk17, hfk, htk⟩ := hik
    obtain ⟨c0, c1, c2, c3, c4, c5, c6, c7, c8, c9, c10, c11, c12, c14⟩ := hb.cs
    simp only [fs, tillL_cast] at c3 c5 c6 c7
    have hlg := hl.of hg h2b
    have HGK : Hid (gk = 17 - k + rem) := hgk
    have HPR : Hid (p + rem = p0 + len) := hpr
    clear hgk hpr
    by_cases hd : k = 17
    · subst hd
      have hst : stepN 17 = 17 := rfl
      rw [hst] at c3
      clear c5 c6 c7
      go_wp2_with fail
      go_ret
      have h56 : fromN L 17 = 56 + L := rfl
      have he : p = p0 + len := by have := HPR.out; omega
      exact ⟨rfl, hg, 17, ⟨by omega, by omega, by rw [← he]; exact htk⟩, .inl rfl, by rw [← he]; exact hb⟩
    · have hk16 : k ≤ 16 := by omega
      have hst := (step_range hk17).2.2.1 hd
      have hst' : (stepN k == 17) = false := by simpa using hst
      have HST : Hid (stepN k ≠ 17) := hst
      clear hst
      generalize hsk : stepN k = st at *
      by_cases hlf : p = tillL L k
      · have hc6 : ((tillL L k : Nat) : Int) - (p : Int) = 0 := by omega
        rw [hc6] at c6
        have hb' : Blk wr b (fs off rc fed L k (tillN L k) (valN L k)) := hb.cast (by rw [hlf, vOf_till hm hk16, tillL_cast])
        have hnx := next_ok k hk16 hb' hlg h2b (by have := hm.l1; omega) (by have := hm.l2; omega)
        have HLF : Hid (p = tillL L k) := hlf
        clear hlf hc6 c5 c7
        go_wp2_with (go_at_call 22; refine hnx.mono ?_; rintro e w' ⟨rfl, hb2, hg2⟩)
        go_roundg (17 - (k + 1) + rem)
        case measure => have := HGK.out; omega
        case rel => exact ⟨k + 1, p, rem, o, cp, rfl, rfl, hrc, HPR.out, hp0, ho, ⟨by omega, by rw [from_till, HLF.out]; exact Nat.le_refl _, by
            rw [HLF.out]
            rcases k17 hk17 with rfl | rfl | rfl | rfl | rfl | rfl | rfl | rfl | rfl | rfl | rfl | rfl | rfl | rfl | rfl | rfl | rfl | rfl <;> simp [tillL]⟩,
            hb2.cast (by rw [tillL_cast, ← HLF.out, show vOf m L (k + 1) p = 0 from by rw [HLF.out, ← from_till]; exact vOf_from m L (k + 1)]), hg.trans hg2⟩
      · have hlt : p < tillL L k := by omega
        have hc6 : (((tillL L k : Nat) : Int) - (p : Int) == 0) = false := by simp; omega
        by_cases hr0 : rem = 0
        · subst hr0
          go_wp2_with fail
          go_ret
          have he : p = p0 + len := by have := HPR.out; omega
          exact ⟨rfl, hg, k, ⟨hk17, by omega, by omega⟩, .inr (by omega), by rw [← he]; exact hb⟩
        · have hrp : 0 < rem := by omega
          have ho' := ho hrp
          have HO : Hid (o = bo + (p - p0)) := ho'
          clear ho ho'
          obtain ⟨z, hz⟩ : ∃ z, z = min rem (tillL L k - p) := ⟨_, rfl⟩
          have hz0 : 0 < z := by omega
          have hz1 : z ≤ rem := by omega
          have hz2 : p + z ≤ tillL L k := by omega
          have hr0' : ((rem : Int) == 0) = false := by simp; omega
          go_upto_region 8 with fail
          go_cut [6] (fun u6 wc => u6 = .slice (some ⟨bb, o, none⟩) z cp ∧ wc = wr)
          case first =>
            by_cases hmn : rem ≤ tillL L k - p
            · have hzr : z = rem := by omega
              subst hzr
              have hlei : (z : Int) ≤ ((tillL L k : Nat) : Int) - (p : Int) := by omega
              clear hz
              go_wp2_with fail
              go_meet
              case rel => exact ⟨rfl, rfl⟩
            · have hzr : z = tillL L k - p := by omega
              have hzi : ((tillL L k : Nat) : Int) - (p : Int) = (z : Int) := by omega
              have hlei : (z : Int) < (rem : Int) := by omega
              rw [hzi] at c6
              clear hz hzr hzi hc6
              go_wp2_with fail
              go_meet
              case rel => exact ⟨rfl, rfl⟩
          case rest =>
            obtain ⟨rfl, rfl⟩ := hcut
            clear hz
            have f5 := hb.free 5
            have f6 := hb.free 6
            have htl := till_le L k
            have hL2 := hm.l2
            have hzc : (z : Int) ≤ (cp : Int) := by omega
            have hzr : (z : Int) ≤ (rem : Int) := by omega
            go_upto_region 12 with fail
            obtain ⟨o2, hform, ho2⟩ : ∃ o2, (if cp = z then some (⟨bb, o, none⟩ : Addr) else some ⟨bb, o + z, none⟩) = some ⟨bb, o2, none⟩ ∧ (0 < rem - z → o2 = o + z) := by
              by_cases hcz : cp = z
              · exact ⟨o, by rw [if_pos hcz], fun h => by omega⟩
              · exact ⟨o + z, by rw [if_neg hcz], fun _ => rfl⟩
            simp only [hform]
            clear hform
            have hb2 := (hb.set5 ((p : Int) + z)).set6 ((tillL L k : Nat) - (p : Int) - z)
            have hg2 := (hg.set 5 (.int .i64 ((p : Int) + z))).set 6 (.int .i64 ((tillL L k : Nat) - (p : Int) - z))
            have HBE : Hid ({ fs off rc fed L k p (vOf m L k p) with ps := (p : Int) + z, lf := (tillL L k : Nat) - (p : Int) - z } = fs off rc fed L k (p + z : Nat) (vOf m L k p)) := by
              show _ = _
              simp only [fs, tillL_cast, Fr.mk.injEq, true_and, and_true]
              constructor <;> omega
            clear hb c0 c1 c2 c3 c4 c5 c6 c7 c8 c9 c10 c11 c12 c14 f5 f6 hlg hg
            generalize (wc.setCell ⟨b, 5, none⟩ (.int .i64 ((p : Int) + z))).setCell ⟨b, 6, none⟩ (.int .i64 ((tillL L k : Nat) - (p : Int) - z)) = wv at *
            obtain ⟨c0, c1, c2, c3, c4, c5, c6, c7, c8, c9, c10, c11, c12, c14⟩ := hb2.cs
            simp only [fs, tillL_cast, hsk] at c3 c5 c6 c7
            have f7 := hb2.free 7
            have hnum : Calls Ybaf.prog 23 #[.int .u8 st] wv fun e w' => e = .returned (.bool (isNum k)) ∧ w' = wv := by rw [← hsk]; exact number_k hk17 wv
            have hcl : ∀ j, j < z → wv.cell? ⟨bb, o + j, none⟩ = some (.int .u8 (m (p + j))) := fun j hj => by
              have h1 := hcell (p - p0 + j) (by have := HPR.out; omega)
              have e1 : bo + (p - p0 + j) = o + j := by have := HO.out; omega
              have e2 : p0 + (p - p0 + j) = p + j := by omega
              rw [e1, e2] at h1
              exact hg2.cell h1 hbb
            have hrl : ∀ {wz : World}, Blk wz b (fs off rc fed L k (p + z : Nat) (vOf m L k (p + z))) → G b w wz → ∃ (k_1 p_1 rem_1 o_1 cp_1 : Nat), 17 - k + (rem - z) = 17 - k_1 + rem_1 ∧ (Value.slice (some ⟨bb, o2, none⟩) (rem - z) (cp - z)) = .slice (some ⟨bb, o_1, none⟩) rem_1 cp_1 ∧ rem_1 ≤ cp_1 ∧ p_1 + rem_1 = p0 + len ∧ p0 ≤ p_1 ∧ (0 < rem_1 → o_1 = bo + (p_1 - p0)) ∧ In L k_1 p_1 ∧ Blk wz b (fs off rc fed L k_1 p_1 (vOf m L k_1 p_1)) ∧ G b w wz := fun h1 h2 =>
              ⟨k, p + z, rem - z, o2, cp - z, rfl, rfl, by omega, by have := HPR.out; omega, by omega, fun h => by have := ho2 h; have := HO.out; omega, ⟨hk17, by omega, hz2⟩, h1, h2⟩
            have hmeas : 17 - k + (rem - z) < gk := by have := HGK.out; omega
            clear hcell
            cases hn : isNum k with
            | true =>
              have hw3 := width3 (L := L) hn hk16
              have hv0 : vOf m L k p = numv m (fromN L k) (p - fromN L k) := by unfold vOf; rw [hn]; rfl
              have HV : Hid (vOf m L k (p + z) = numv m (fromN L k) (p - fromN L k + z)) := by
                show _ = _
                unfold vOf; rw [hn, if_pos rfl, show p + z - fromN L k = p - fromN L k + z by omega]
              rw [hv0] at c7
              clear hv0
              rw [hn] at hnum
              go_wp2_with (go_at_call 23; refine hnum.mono ?_; rintro e w' ⟨rfl, rfl⟩)
              obtain ⟨wv, rfl⟩ : ∃ wv, wv = w' := ⟨w', rfl⟩
              go_loopw [7, 73] (fun u7 i wq => ∃ j : Nat, j ≤ z ∧ i = .int .i64 j ∧ u7 = .int .i64 (numv m (fromN L k) (p - fromN L k + j)) ∧ wq = wv) (fun _ i _ => z - (intOf i).toNat)
              case atStart => exact ⟨0, Nat.zero_le _, rfl, rfl, rfl⟩
              case round =>
                obtain ⟨j, hj, rfl, rfl, rfl⟩ := hrel
                by_cases hjz : j < z
                · have hcj := hcl j hjz
                  obtain ⟨nb1, nb2⟩ := numv_bound hm (fromN L k) (p - fromN L k + j) (by omega)
                  have nb3 : numv m (fromN L k) (p - fromN L k + j) < 65536 := by
                    have h3 : p - fromN L k + j ≤ 2 := by omega
                    have : (256 : Int) ^ (p - fromN L k + j) ≤ 256 ^ 2 := by
                      have := Nat.pow_le_pow_right (n := 256) (by omega) h3
                      exact_mod_cast this
                    omega
                  obtain ⟨hby1, hby2⟩ := hm.byte (p + j)
                  have HNX : Hid (numv m (fromN L k) (p - fromN L k + (j + 1)) = numv m (fromN L k) (p - fromN L k + j) * 256 + m (p + j)) := by
                    show numv m (fromN L k) (p - fromN L k + j + 1) = _
                    rw [numv, show fromN L k + (p - fromN L k + j) = p + j by omega]
                  have hor := or_byte (numv m (fromN L k) (p - fromN L k + j)) (m (p + j)) nb1 nb3 hby1 hby2
                  clear hcl nb2
                  generalize numv m (fromN L k) (p - fromN L k + j) = N at *
                  generalize m (p + j) = cc at *
                  go_wp2_with fail
                  go_roundw
                  case rel => exact ⟨j + 1, by omega, by go_num, by rw [HNX.out], by trivial⟩
                  case measure => simp [intOf]; omega
                · have hjz' : j = z := by omega
                  subst hjz'
                  go_wp2_with fail
                  go_roundg (17 - k + (rem - j))
                  case measure => exact hmeas
                  case rel => exact hrl (((hb2.cast HBE.out).set7 _).cast (by rw [HV.out]; rfl)) (hg2.set 7 _)
            | false =>
              have hv1 : vOf m L k p = 0 := by unfold vOf; rw [hn]; rfl
              have HV : Hid (vOf m L k (p + z) = vOf m L k p) := by
                show _ = _
                unfold vOf; rw [hn]; rfl
              rw [hn] at hnum
              have h13 := (step_range hk17).2.2.2.2
              rw [hsk] at h13
              by_cases hk6 : k = 16
              · have h13' : (st == 13) = true := by rw [h13]; simp [hk6]
                have hnm : ∀ j, j < z → 33 ≤ m (p + j) ∧ m (p + j) ≤ 126 := fun j hj => by
                  have h1 : 56 ≤ p := by rw [hk6] at hfk; exact hfk
                  exact hm.name (p + j) (by omega) (by omega)
                clear h13
                go_wp2_with (go_at_call 23; refine hnum.mono ?_; rintro e w' ⟨rfl, rfl⟩)
                obtain ⟨wv, rfl⟩ : ∃ wv, wv = w' := ⟨w', rfl⟩
                go_loopw [95] (fun i wq => ∃ j : Nat, j ≤ z ∧ i = .int .i64 j ∧ wq = wv) (fun i _ => z - (intOf i).toNat)
                case atStart => exact ⟨0, Nat.zero_le _, rfl, rfl⟩
                case round =>
                  obtain ⟨j, hj, rfl, rfl⟩ := hrel
                  by_cases hjz : j < z
                  · have hcj := hcl j hjz
                    obtain ⟨hby1, hby2⟩ := hnm j hjz
                    have hd1 : decide (m (p + j) < 33) = false := by simp; omega
                    have hd2 : decide (126 < m (p + j)) = false := by simp; omega
                    clear hcl hnm
                    generalize m (p + j) = cc at *
                    go_wp2_with fail
                    go_roundw
                    case rel => exact ⟨j + 1, by omega, by go_num, by trivial⟩
                    case measure => simp [intOf]; omega
                  · have hjz' : j = z := by omega
                    subst hjz'
                    go_wp2_with fail
                    go_roundg (17 - k + (rem - j))
                    case measure => exact hmeas
                    case rel => exact hrl ((hb2.cast HBE.out).cast (by rw [HV.out])) hg2
              · have h13' : (st == 13) = false := by rw [h13]; simp [hk6]
                clear h13
                go_wp2_with (go_at_call 23; refine hnum.mono ?_; rintro e w' ⟨rfl, rfl⟩)
                go_roundg (17 - k + (rem - z))
                case measure => exact hmeas
                case rel => exact hrl ((hb2.cast HBE.out).cast (by rw [HV.out])) hg2
end Go.Proofs.YbulkahqyFmt

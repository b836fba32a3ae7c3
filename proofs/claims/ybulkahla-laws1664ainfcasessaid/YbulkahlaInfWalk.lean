import Derived.Test.YbulkahlaBuild
namespace Go.Proofs.Ybulkahla
open Go.RowKit
set_option linter.unusedSimpArgs false
attribute [local go_sem] run_store_float call31 call42 call43
attribute [local go_sem ↓] run_fadd run_fsub run_fmul run_fquo run_fmax run_fmin run_fsqrt

def anyB (g : Gin) : Bool := decide (100 ≤ 99 + g.2.2.2.1 % 3)

theorem wcF_fold (least : Option Nat) (l : List Smp) : ∀ a, l.any ans = false → l.foldl (wcStep least) a = a := by
  induction l with
  | nil => intro a _; rfl
  | cons s l ih =>
    intro a h
    rw [List.any_cons, Bool.or_eq_false_iff] at h
    rw [List.foldl_cons, show wcStep least a s = a from by simp [wcStep, h.1]]
    exact ih a h.2
theorem wcF_none (least : Option Nat) (l : List Smp) (h : l.any ans = false) : wcF least l = (cn 0, cn 0, cn 0) := wcF_fold least l _ h

theorem ord00 : (ordF (cn 0) (cn 0) == some .eq) = true := by decide

theorem ok_nil (gi : List Gin) (h : gi.any anyB = false) : okLvls (gi.map lvlOf) = [] := by
  unfold okLvls
  rw [List.filter_eq_nil_iff]
  intro g hg
  obtain ⟨x, hx, rfl⟩ := List.mem_map.1 hg
  have := List.any_eq_false.1 h x hx
  simpa [anyB, lvlOf] using this

/-- measured at light load, no answered sample, or no level of a hundred probes: +Inf -/
theorem bound_inf (l : List Smp) (gi : List Gin) (least : Option Nat) (mp : Int) (h : 0 < mp ∨ l.any ans = false ∨ gi.any anyB = false) : boundF l (gi.map lvlOf) least mp = cn infB := by
  unfold boundF
  split
  · rfl
  · rename_i hmp
    rcases h with h | h | h
    · exact absurd h hmp
    · have : wcap l least = none := by
        unfold wcap
        rw [wcF_none least l h, if_pos ord00]
      rw [this]
    · have hk := ok_nil gi h
      split
      · rfl
      · rw [tailF, if_pos hk]

theorem eq_inf {r : Nat} (h : cn r = cn infB) : r = infB := by
  have h1 : cn infB = some infB := by decide
  rw [h1] at h
  cases hx : nanB r with
  | true => rw [cn_nan hx] at h; cases h
  | false => rw [cn_num hx] at h; exact Option.some.inj h

theorem ord_inf : (FloatKind.f64.format.order infB 9218868437227405311 == some .gt) = true := by decide

theorem isinf_any (w : World) : Calls Yba.prog 17 #[.float .f64 infB, .int .i64 1] w fun e w' => e = .returned (.bool true) ∧ w' = w := by
  have h := ord_inf
  generalize infB = x at *
  go_enter Yba.func17, Yba.ntmps17
  go_wp2_with fail
  go_ret
  exact ⟨by simp [h], rfl⟩

theorem any_take_snoc {α : Type} (p : α → Bool) {l : List α} {k : Nat} {s : α} (h : l[k]? = some s) : (l.take (k + 1)).any p = ((l.take k).any p || p s) := by rw [take_snoc' h]; simp

set_option maxHeartbeats 2000000 in
theorem inf_law (a a' : Option Addr) (len len' cap cap' : Nat) (l : List Smp) (gi : List Gin) (least : Nat) (mp : Int) (w : World) (hlen : l.length = len) (hlen' : gi.length = len') (hc : SmpsAt w a l) (hd : GinAt w a' gi) :
    Calls Yba.prog 4 #[.slice a len cap, .slice a' len' cap', .float .f64 least, .int .i64 mp] w fun e w' => e = .returned (.bool true) ∧ Below w.heap.size w w' := by
  subst hlen hlen'
  by_cases hl : l.length ≤ 1024
  · by_cases hg : gi.length ≤ 1024
    · go_enter Yba.func4, Yba.ntmps4
      go_wp2_with fail
      go_loopw [9, 27] (fun u i wr => ∃ k : Nat, k ≤ l.length ∧ i = .int .i64 k ∧ u = .bool ((l.take k).any ans) ∧ Below w.heap.size w wr)
        (fun _ i _ => l.length - (intOf i).toNat)
      case atStart => exact ⟨0, Nat.zero_le _, rfl, rfl, Below.refl _ _⟩
      case round =>
        obtain ⟨k, hk, rfl, rfl, hnx⟩ := hrel
        have hsz := hnx.size
        by_cases hlt : k < l.length
        · obtain ⟨s, hs⟩ : ∃ s, l[k]? = some s := ⟨l[k], by simp [hlt]⟩
          obtain ⟨b, off, rfl, hb, h1, h2, h3, h4⟩ := (hc.below hnx) k s hs
          have HT : Hid ((l.take (k + 1)).any ans = ((l.take k).any ans || ans s)) := any_take_snoc ans hs
          clear hc hd hs
          generalize (l.take k).any ans = b0 at *
          cases ha : (FloatKind.f64.format.order s.2.2.1 0 == some .gt) with
          | true =>
            have HA : Hid (ans s = true) := by
              show _ = _
              rw [ans, ← ordF_eq]; exact ha
            go_wp2_with fail
            go_roundw
            case rel => exact ⟨k + 1, by omega, by go_num, by rw [HT.out, HA.out, Bool.or_true], bel_alloc hnx _⟩
            case measure => simp [intOf]; omega
          | false =>
            have HA : Hid (ans s = false) := by
              show _ = _
              rw [ans, ← ordF_eq]; exact ha
            go_wp2_with fail
            go_roundw
            case rel => exact ⟨k + 1, by omega, by go_num, by rw [HT.out, HA.out, Bool.or_false], bel_alloc hnx _⟩
            case measure => simp [intOf]; omega
        · have hkl : k = l.length := by omega
          subst hkl
          rw [List.take_length]
          obtain ⟨w2, rfl⟩ : ∃ w2, w2 = wr := ⟨wr, rfl⟩
          have hc2 := hc.below hnx
          have hd2 := hd.below hnx
          clear hc hd
          have HAN : Hid (l.any ans = l.any ans) := rfl
          generalize hab : l.any ans = ab at *
          have HAB : Hid (l.any ans = ab) := hab
          clear hab HAN
          go_wp2_with fail
          go_loopw [12, 37] (fun u i wr => ∃ k : Nat, k ≤ gi.length ∧ i = .int .i64 k ∧ u = .bool ((gi.take k).any anyB) ∧ Below w2.heap.size w2 wr)
            (fun _ i _ => gi.length - (intOf i).toNat)
          case atStart => exact ⟨0, Nat.zero_le _, rfl, rfl, Below.refl _ _⟩
          case round =>
            obtain ⟨k, hk, rfl, rfl, hnr⟩ := hrel
            by_cases hlt2 : k < gi.length
            · obtain ⟨s, hs⟩ : ∃ s, gi[k]? = some s := ⟨gi[k], by simp [hlt2]⟩
              obtain ⟨b, off, rfl, hb, h1, h2, h3, h4, h5, hs0, hs1⟩ := (hd2.below hnr) k s hs
              have HT : Hid ((gi.take (k + 1)).any anyB = ((gi.take k).any anyB || anyB s)) := any_take_snoc anyB hs
              clear hc2 hd2 hs
              generalize (gi.take k).any anyB = b0 at *
              by_cases h100 : 100 ≤ 99 + s.2.2.2.1 % 3
              · have HA : Hid (anyB s = true) := by
                  show _ = _
                  simp [anyB, h100]
                go_wp2_with (go_at_call 16; refine (probes_any _ _ hs0 hs1).mono ?_; rintro e w' ⟨rfl, rfl⟩)
                go_roundw
                case rel => exact ⟨k + 1, by omega, by go_num, by rw [HT.out, HA.out, Bool.or_true], bel_alloc hnr _⟩
                case measure => simp [intOf]; omega
              · have HA : Hid (anyB s = false) := by
                  show _ = _
                  simp [anyB, h100]
                go_wp2_with (go_at_call 16; refine (probes_any _ _ hs0 hs1).mono ?_; rintro e w' ⟨rfl, rfl⟩)
                go_roundw
                case rel => exact ⟨k + 1, by omega, by go_num, by rw [HT.out, HA.out, Bool.or_false], bel_alloc hnr _⟩
                case measure => simp [intOf]; omega
            · have hkl : k = gi.length := by omega
              subst hkl
              rw [List.take_length]
              have hc3 := hc2.below hnr
              have hd3 := hd2.below hnr
              have hB3 : Below w.heap.size w wr := hnx.trans (hnr.mono hsz)
              clear hc2 hd2 hnr
              generalize hgb : gi.any anyB = gb at *
              have HGB : Hid (gi.any anyB = gb) := hgb
              clear hgb
              go_wp2_with fail
              refine (build_any a a' cap cap' l gi least mp _ hl hg hc3 hd3).mono ?_
              rintro e w4 ⟨bs, bl, cl, br, bg, cg, rfl, hb4, hsv⟩
              have hB4 := hB3.trans (hb4.mono hB3.size)
              clear hc3 hd3
              go_wp2_with fail
              refine (bound_any hsv hl (by simpa using hg)).mono ?_
              rintro e w5 ⟨r, rfl, hr, hb5⟩
              have hB5 := hB4.trans (hb5.mono hB4.size)
              clear hsv
              have HRI : 0 < mp ∨ ab = false ∨ gb = false → r = infB := fun hcase => eq_inf (by rw [hr]; exact bound_inf l gi (cn least) mp (by rw [HAB.out, HGB.out]; exact hcase))
              clear hr HAB HGB
              by_cases hmp : 0 < mp
              · have hri := HRI (.inl hmp)
                subst hri
                clear HRI
                go_wp2_with (go_at_call 17; refine (isinf_any _).mono ?_; rintro e w' ⟨rfl, rfl⟩)
                go_ret
                exact ⟨rfl, hB5⟩
              · have hmp' : decide (0 < mp) = false := by simp; omega
                cases ab with
                | false =>
                  have hri := HRI (.inr (.inl rfl))
                  subst hri
                  clear HRI
                  go_wp2_with (go_at_call 17; refine (isinf_any _).mono ?_; rintro e w' ⟨rfl, rfl⟩)
                  go_ret
                  exact ⟨rfl, hB5⟩
                | true =>
                  cases gb with
                  | false =>
                    have hri := HRI (.inr (.inr rfl))
                    subst hri
                    clear HRI
                    go_wp2_with (go_at_call 17; refine (isinf_any _).mono ?_; rintro e w' ⟨rfl, rfl⟩)
                    go_ret
                    exact ⟨rfl, hB5⟩
                  | true =>
                    clear HRI
                    go_wp2_with fail
                    go_ret
                    exact ⟨rfl, hB5⟩
    · have hg' : (1024 : Int) < gi.length := by omega
      have hl' : decide ((1024 : Int) < l.length) = false := by simp; omega
      go_enter Yba.func4, Yba.ntmps4
      go_wp2_with fail
      go_ret
      exact ⟨rfl, Below.refl _ _⟩
  · have hl' : (1024 : Int) < l.length := by omega
    go_enter Yba.func4, Yba.ntmps4
    go_wp2_with fail
    go_ret
    exact ⟨rfl, Below.refl _ _⟩
end Go.Proofs.Ybulkahla

import Derived.Test.YbulkahlaCok
namespace Go.Proofs.Ybulkahla
open Go.RowKit

theorem tot_upd {L : Nat → List Int} {l' : List Int} {s : Nat} : ∀ n, (s < n → tot (upd L s l') n + (L s).length = tot L n + l'.length) ∧ (n ≤ s → tot (upd L s l') n = tot L n)
  | 0 => ⟨fun h => by omega, fun _ => rfl⟩
  | n + 1 => by
    obtain ⟨h1, h2⟩ := tot_upd (L := L) (l' := l') (s := s) n
    refine ⟨fun h => ?_, fun h => ?_⟩
    · simp only [tot]
      by_cases hn : n = s
      · subst hn
        have := h2 (Nat.le_refl _)
        rw [upd_same, this]
        omega
      · have := h1 (by omega)
        rw [upd_other _ _ hn]
        omega
    · simp only [tot]
      rw [h2 (by omega), upd_other _ _ (by omega)]

section
variable {nS nG nR : Nat} {on : Nat → Bool} {L : Nat → List Int} {at_ : Nat → Int} {cnt : Int}
theorem PI.carry (h : PI nS nG nR on L at_ cnt) {r s : Nat} (hr : r < nR) (hsr : r / nG = s) (hs : s < nS) (ho : on r = false) :
    PI nS nG nR (upd on r true) (upd L s (L s ++ [(r : Int)])) (upd at_ r (L s).length) (cnt + 1) := by
  have har := h.off r hr ho
  refine ⟨fun q hq hqo => ?_, fun q hq hqo => ?_, fun s' hs' i x hx => ?_, ?_⟩
  · have hqr : q ≠ r := fun e => by subst e; rw [upd_same] at hqo; cases hqo
    rw [upd_other _ _ hqr] at hqo ⊢
    exact h.off q hq hqo
  · by_cases hqr : q = r
    · subst hqr
      refine ⟨(L s).length, by rw [upd_same], ?_⟩
      rw [hsr, upd_same]
      simp
    · rw [upd_other _ _ hqr] at hqo ⊢
      obtain ⟨i, h1, h2⟩ := h.on_ q hq hqo
      refine ⟨i, h1, ?_⟩
      by_cases hqs : q / nG = s
      · rw [hqs] at h2 ⊢
        rw [upd_same, List.getElem?_append_left (List.getElem?_eq_some_iff.1 h2).1]
        exact h2
      · rw [upd_other _ _ hqs]
        exact h2
  · by_cases hss : s' = s
    · subst hss
      rw [upd_same] at hx
      by_cases hil : i < (L s').length
      · rw [List.getElem?_append_left hil] at hx
        obtain ⟨q, h1, h2, h3, h4⟩ := h.mem s' hs' i x hx
        refine ⟨q, h1, h2, h3, ?_⟩
        rw [upd_other _ _ (fun e => by subst e; omega)]
        exact h4
      · rw [List.getElem?_append_right (by omega)] at hx
        have hi0 : i - (L s').length = 0 := by
          have := (List.getElem?_eq_some_iff.1 hx).1
          simp at this
          omega
        rw [hi0] at hx
        simp at hx
        exact ⟨r, hx.symm, hr, hsr, by rw [upd_same]; omega⟩
    · rw [upd_other _ _ hss] at hx
      obtain ⟨q, h1, h2, h3, h4⟩ := h.mem s' hs' i x hx
      exact ⟨q, h1, h2, h3, by rw [upd_other _ _ (fun e => by subst e; omega)]; exact h4⟩
  · have := (tot_upd (L := L) (l' := L s ++ [(r : Int)]) (s := s) nS).1 hs
    have hc := h.sum
    simp at this
    omega

theorem PI.drop (h : PI nS nG nR on L at_ cnt) {r s i n mv : Nat} (hr : r < nR) (hsr : r / nG = s) (hs : s < nS) (hai : at_ r = i) (hLi : (L s)[i]? = some (r : Int)) (hLn : (L s).length = n + 1) (hmv : (L s)[n]? = some (mv : Int)) :
    PI nS nG nR (upd on r false) (upd L s (((L s).set i (mv : Int)).take n)) (upd (upd at_ mv i) r (-1)) (cnt - 1) := by
  obtain ⟨m', e1, hmr, hms, ham⟩ := h.mem s hs n _ hmv
  obtain rfl : mv = m' := by omega
  have hin : i < n + 1 := by have := (List.getElem?_eq_some_iff.1 hLi).1; omega
  have hri : mv = r → i = n := fun e => by subst e; omega
  have hir : i = n → mv = r := fun e => by
    subst e
    rw [hLi] at hmv
    have := Option.some.inj hmv
    omega
  have hget : ∀ j, j < n → (((L s).set i (mv : Int)).take n)[j]? = if j = i then some (mv : Int) else (L s)[j]? := fun j hj => by
    rw [List.getElem?_take_of_lt hj]
    by_cases hji : j = i
    · subst hji; rw [if_pos rfl, List.getElem?_set_self (by omega)]
    · rw [if_neg hji, List.getElem?_set_ne (fun e => hji e.symm)]
  refine ⟨fun q hq hqo => ?_, fun q hq hqo => ?_, fun s' hs' j x hx => ?_, ?_⟩
  · by_cases hqr : q = r
    · subst hqr; rw [upd_same]
    · rw [upd_other _ _ hqr] at hqo ⊢
      have := h.off q hq hqo
      rw [upd_other _ _ (fun e => by subst e; omega)]
      exact this
  · have hqr : q ≠ r := fun e => by subst e; rw [upd_same] at hqo; cases hqo
    rw [upd_other _ _ hqr] at hqo ⊢
    by_cases hqm : q = mv
    · subst hqm
      have hilt : i < n := by
        rcases Nat.lt_or_ge i n with h1 | h1
        · exact h1
        · exact absurd (hir (by omega)) hqr
      refine ⟨i, by rw [upd_same], ?_⟩
      rw [hms, upd_same, hget i hilt, if_pos rfl]
    · rw [upd_other _ _ hqm]
      obtain ⟨j, h1, h2⟩ := h.on_ q hq hqo
      refine ⟨j, h1, ?_⟩
      by_cases hqs : q / nG = s
      · rw [hqs] at h2 ⊢
        have hji : j ≠ i := fun e => by
          subst e
          rw [hLi] at h2
          have := Option.some.inj h2
          omega
        have hjn : j ≠ n := fun e => by
          subst e
          rw [hmv] at h2
          have := Option.some.inj h2
          omega
        have hjl := (List.getElem?_eq_some_iff.1 h2).1
        rw [upd_same, hget j (by omega), if_neg hji]
        exact h2
      · rw [upd_other _ _ hqs]
        exact h2
  · by_cases hss : s' = s
    · subst hss
      rw [upd_same] at hx
      have hjn : j < n := by
        have := (List.getElem?_eq_some_iff.1 hx).1
        simp at this
        omega
      rw [hget j hjn] at hx
      by_cases hji : j = i
      · rw [if_pos hji] at hx
        have hne : mv ≠ r := fun e => by have := hri e; omega
        refine ⟨mv, (Option.some.inj hx).symm, hmr, hms, ?_⟩
        rw [upd_other _ _ hne, upd_same]
        omega
      · rw [if_neg hji] at hx
        obtain ⟨q, h1, h2, h3, h4⟩ := h.mem s' hs' j x hx
        refine ⟨q, h1, h2, h3, ?_⟩
        rw [upd_other _ _ (fun e => by subst e; omega), upd_other _ _ (fun e => by subst e; omega)]
        exact h4
    · rw [upd_other _ _ hss] at hx
      obtain ⟨q, h1, h2, h3, h4⟩ := h.mem s' hs' j x hx
      refine ⟨q, h1, h2, h3, ?_⟩
      rw [upd_other _ _ (fun e => by subst e; omega), upd_other _ _ (fun e => by subst e; omega)]
      exact h4
  · have := (tot_upd (L := L) (l' := ((L s).set i (mv : Int)).take n) (s := s) nS).1 hs
    have hc := h.sum
    simp at this
    omega
end
end Go.Proofs.Ybulkahla

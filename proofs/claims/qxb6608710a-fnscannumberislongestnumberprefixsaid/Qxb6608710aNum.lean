import Derived.Test.Qxb6608710aScan3
namespace Go.Proofs.Qxb6608710a
open Go.ChangeShapes Go.WideShapes Go.ChangeAt Go.RowKit

/-! ### the automaton, plain -/
def eB (c : Int) : Bool := c == 101 || c == 69

def step : Nat → Int → Nat
  | 0, c => if c == 45 then 1 else if c == 48 then 2 else if digB c then 3 else 9
  | 1, c => if c == 48 then 2 else if digB c then 3 else 9
  | 2, c => if c == 46 then 4 else if eB c then 6 else 9
  | 3, c => if digB c then 3 else if c == 46 then 4 else if eB c then 6 else 9
  | 4, c => if digB c then 5 else 9
  | 5, c => if digB c then 5 else if eB c then 6 else 9
  | 6, c => if c == 43 || c == 45 then 7 else if digB c then 8 else 9
  | 7, c => if digB c then 8 else 9
  | 8, c => if digB c then 8 else 9
  | _, _ => 9

def run (Y : Nat → Int) : Nat → Nat
  | 0 => 0
  | m + 1 => step (run Y m) (Y m)

def complete (s : Nat) : Bool := s == 2 || s == 3 || s == 5 || s == 8

theorem step_le (s : Nat) (c : Int) : step s c ≤ 9 := by
  unfold step
  split <;> (repeat' split) <;> omega
theorem run_le (Y : Nat → Int) : ∀ m, run Y m ≤ 9
  | 0 => Nat.zero_le _
  | _ + 1 => step_le _ _

/-- Having read the bytes from i up to p the automaton stands in s. -/
def St (Z : Nat → Int) (i p s : Nat) : Prop := i ≤ p ∧ run (fun j => Z (i + j)) (p - i) = s

theorem St.start (Z : Nat → Int) (i : Nat) : St Z i i 0 := ⟨Nat.le_refl _, by rw [Nat.sub_self]; rfl⟩
theorem St.next {Z : Nat → Int} {i p s : Nat} (h : St Z i p s) : St Z i (p + 1) (step s (Z p)) := by
  obtain ⟨h1, h2⟩ := h
  refine ⟨by omega, ?_⟩
  rw [show p + 1 - i = (p - i) + 1 by omega]
  show step (run (fun j => Z (i + j)) (p - i)) (Z (i + (p - i))) = _
  rw [h2, show i + (p - i) = p by omega]

theorem St.digits {Z : Nat → Int} {i s t : Nat} (h1 : ∀ c, digB c = true → step s c = t) (h2 : ∀ c, digB c = true → step t c = t) :
    ∀ (d p : Nat), St Z i p s → (∀ j, p ≤ j → j < p + (d + 1) → digB (Z j) = true) → St Z i (p + (d + 1)) t
  | 0, p, h, hd => by have := h.next; rw [h1 _ (hd p (Nat.le_refl _) (by omega))] at this; exact this
  | d + 1, p, h, hd => by
    have := (St.digits h1 h2 d p h (fun j a b => hd j a (by omega))).next
    rw [h2 _ (hd _ (by omega) (by omega))] at this
    exact this

theorem St.skip {Z : Nat → Int} {n i p s t : Nat} (h1 : ∀ c, digB c = true → step s c = t) (h2 : ∀ c, digB c = true → step t c = t) (h : St Z i p s) (hp : p < n) (hd : digB (Z p) = true) :
    St Z i (skip Z n p) t := by
  have g := skip_spec Z n p (by omega)
  have hl : p < Qxb6608710a.skip Z n p := by
    rcases Nat.lt_or_ge p (Qxb6608710a.skip Z n p) with h1 | h1
    · exact h1
    · have e : Qxb6608710a.skip Z n p = p := Nat.le_antisymm h1 g.lo
      have h2 := g.stop (by omega)
      rw [e, hd] at h2; cases h2
  obtain ⟨d, e⟩ : ∃ d, Qxb6608710a.skip Z n p = p + (d + 1) := ⟨Qxb6608710a.skip Z n p - p - 1, by omega⟩
  rw [e]
  exact St.digits h1 h2 d p h (fun j a b => g.all j a (by omega))

/-- What the law asks of an answer. -/
def Fin7 (Z : Nat → Int) (n i : Nat) (r : Nat × Bool) : Prop := ∃ s, St Z i r.1 s ∧ s ≠ 9 ∧ (r.1 < n → step s (Z r.1) = 9) ∧ r.2 = complete s

theorem dig_not {c : Int} (h : digB c = true) : (c == 45) = false ∧ (c == 46) = false ∧ eB c = false ∧ (c == 43 || c == 45) = false := by
  simp only [digB, decide_eq_true_eq] at h
  simp only [eB, beq_eq_false_iff_ne, Bool.or_eq_false_iff]
  omega
theorem e_not {c : Int} (h : eB c = true) : digB c = false ∧ (c == 46) = false := by
  simp only [eB, Bool.or_eq_true, beq_iff_eq] at h
  simp only [digB, decide_eq_false_iff_not, beq_eq_false_iff_ne]
  omega

theorem exp_fin {Z : Nat → Int} {n i q s : Nat} (h : St Z i q s) (hc : complete s = true) (hs : q < n → step s (Z q) = if eB (Z q) then 6 else 9) : Fin7 Z n i (expP Z n q) := by
  have h9 : s ≠ 9 := fun e => by subst e; simp [complete] at hc
  unfold expP
  by_cases hq : q < n
  · rw [if_pos hq]
    change Fin7 Z n i (if eB (Z q) = true then _ else _)
    cases he : eB (Z q)
    · refine ⟨s, h, h9, fun _ => ?_, hc.symm⟩
      show step s (Z q) = 9
      rw [hs hq, he]; rfl
    · rw [if_pos rfl]
      have h6 := h.next
      rw [hs hq, he, if_pos rfl] at h6
      -- the sign
      obtain ⟨t, ht, ht9, htc, htd, hts⟩ : ∃ t, St Z i (signP Z n (q + 1)) t ∧ t ≠ 9 ∧ complete t = false ∧ (∀ c, digB c = true → step t c = 8) ∧ (signP Z n (q + 1) < n → digB (Z (signP Z n (q + 1))) = false → step t (Z (signP Z n (q + 1))) = 9) := by
        unfold signP
        have d6 : ∀ c, digB c = true → step 6 c = 8 := fun c hd => by
          have := dig_not hd
          simp only [step, this.2.2.2, hd]; rfl
        have d7 : ∀ c, digB c = true → step 7 c = 8 := fun c hd => by simp only [step, hd]; rfl
        by_cases hq2 : q + 1 < n
        · rw [if_pos hq2]
          have h7 := h6.next
          cases hp : (Z (q + 1) == 43)
          · cases hm : (Z (q + 1) == 45)
            · refine ⟨6, h6, by omega, rfl, d6, fun _ hd => ?_⟩
              simp only [Bool.false_eq_true, if_false] at hd ⊢
              simp only [step, hp, hm, hd]; rfl
            · have e : step 6 (Z (q + 1)) = 7 := by simp only [step, hp, hm]; rfl
              rw [e] at h7
              refine ⟨7, h7, by omega, rfl, d7, fun _ hd => ?_⟩
              simp only [Bool.false_eq_true, if_false, if_true] at hd ⊢
              simp only [step, hd]; rfl
          · have e : step 6 (Z (q + 1)) = 7 := by simp only [step, hp]; rfl
            rw [e] at h7
            refine ⟨7, h7, by omega, rfl, d7, fun _ hd => ?_⟩
            simp only [if_true] at hd ⊢
            simp only [step, hd]; rfl
        · rw [if_neg hq2]
          exact ⟨6, h6, by omega, rfl, d6, fun a _ => absurd a hq2⟩
      generalize signP Z n (q + 1) = p at *
      by_cases hp : p < n
      · rw [if_pos hp]
        cases hd : digB (Z p)
        · exact ⟨t, ht, ht9, fun _ => hts hp hd, htc.symm⟩
        · rw [if_pos rfl]
          have d8 : ∀ c, digB c = true → step 8 c = 8 := fun c hd => by simp only [step, hd]; rfl
          have g := St.skip htd d8 ht hp hd
          refine ⟨8, g, by omega, fun hlt => ?_, rfl⟩
          have := (skip_spec Z n p (by omega)).stop hlt
          show step 8 (Z (skip Z n p)) = 9
          simp only [step, this]; rfl
      · rw [if_neg hp]
        exact ⟨t, ht, ht9, fun a => absurd a hp, htc.symm⟩
  · rw [if_neg hq]
    exact ⟨s, h, h9, fun a => absurd a hq, hc.symm⟩

theorem scan_fin (Z : Nat → Int) (n i : Nat) : Fin7 Z n i (scan Z n i) := by
  -- the minus
  obtain ⟨s0, h0, hs0, hd0, hz0, hn0⟩ : ∃ s0, St Z i (minusP Z i) s0 ∧ s0 < 2 ∧ (∀ c, digB c = true → (c == 48) = false → step s0 c = 3) ∧ (∀ c, (c == 48) = true → step s0 c = 2) ∧
      (digB (Z (minusP Z i)) = false → (Z (minusP Z i) == 48) = false → step s0 (Z (minusP Z i)) = 9) := by
    unfold minusP
    cases hm : (Z i == 45)
    · refine ⟨0, St.start Z i, by omega, fun c hd hz => ?_, fun c hz => ?_, fun hd hz => ?_⟩
      · have := dig_not hd
        simp only [step, this.1, hz, hd]; rfl
      · obtain rfl : c = 48 := by simpa using hz
        rfl
      · simp only [Bool.false_eq_true, if_false] at hd hz ⊢
        simp only [step, hm, hz, hd]; rfl
    · have h1 := (St.start Z i).next
      have e : step 0 (Z i) = 1 := by simp only [step, hm]; rfl
      rw [e] at h1
      refine ⟨1, h1, by omega, fun c hd hz => ?_, fun c hz => ?_, fun hd hz => ?_⟩
      · simp only [step, hz, hd]; rfl
      · simp only [step, hz]; rfl
      · simp only [if_true] at hd hz ⊢
        simp only [step, hz, hd]; rfl
  have hc0 : complete s0 = false := by
    obtain rfl | rfl : s0 = 0 ∨ s0 = 1 := by omega
    · rfl
    · rfl
  have d3 : ∀ c, digB c = true → step 3 c = 3 := fun c hd => by simp only [step, hd]; rfl
  have d5 : ∀ c, digB c = true → step 5 c = 5 := fun c hd => by simp only [step, hd]; rfl
  have d4 : ∀ c, digB c = true → step 4 c = 5 := fun c hd => by simp only [step, hd]; rfl
  unfold scan
  generalize minusP Z i = p at *
  -- the integer part
  cases hj : intP Z n p with
  | none =>
    refine ⟨s0, h0, by omega, fun hlt => ?_, hc0.symm⟩
    have hlt' : p < n := hlt
    unfold intP at hj
    rw [if_pos hlt'] at hj
    cases hz : (Z p == 48)
    · cases hd : digB (Z p)
      · exact hn0 hd hz
      · rw [hz, hd] at hj; simp at hj
    · rw [hz] at hj; simp at hj
  | some j =>
    dsimp only
    obtain ⟨s1, h1, hs1, hc1, ht1⟩ : ∃ s1, St Z i j s1 ∧ s1 ≠ 9 ∧ complete s1 = true ∧ (j < n → step s1 (Z j) = if Z j == 46 then 4 else if eB (Z j) then 6 else 9) := by
      unfold intP at hj
      by_cases hp : p < n
      · rw [if_pos hp] at hj
        cases hz : (Z p == 48)
        · rw [hz] at hj
          cases hd : digB (Z p)
          · rw [hd] at hj; simp at hj
          · rw [hd] at hj
            simp only [Bool.false_eq_true, if_false, if_true, Option.some.injEq] at hj
            subst hj
            -- the first digit is no zero
            have g := skip_spec Z n p (by omega)
            have hn := h0.next
            rw [hd0 _ hd hz] at hn
            have h3 : St Z i (skip Z n p) 3 := by
              have hl : p < skip Z n p := by
                rcases Nat.lt_or_ge p (skip Z n p) with a | a
                · exact a
                · have e : skip Z n p = p := Nat.le_antisymm a g.lo
                  have b := g.stop (by omega)
                  rw [e, hd] at b; cases b
              by_cases e : skip Z n p = p + 1
              · rw [e]; exact hn
              · obtain ⟨d, e2⟩ : ∃ d, skip Z n p = p + 1 + (d + 1) := ⟨skip Z n p - p - 2, by omega⟩
                rw [e2]
                exact St.digits d3 d3 d (p + 1) hn (fun j a b => g.all j (by omega) (by omega))
            refine ⟨3, h3, by omega, rfl, fun hlt => ?_⟩
            have := g.stop hlt
            simp only [step, this]; rfl
        · rw [hz] at hj
          simp only [if_true, Option.some.injEq] at hj
          subst hj
          have hn := h0.next
          rw [hz0 _ hz] at hn
          exact ⟨2, hn, by omega, rfl, fun _ => rfl⟩
      · rw [if_neg hp] at hj; simp at hj
    have hjn := intP_le hj
    -- the fraction
    unfold fracP
    by_cases hlt : j < n
    · rw [if_pos hlt]
      cases hdot : (Z j == 46)
      · simp only [Bool.false_eq_true, if_false, if_true]
        refine exp_fin h1 hc1 (fun _ => ?_)
        rw [ht1 hlt, hdot]; rfl
      · have h4 := h1.next
        rw [ht1 hlt, hdot, if_pos rfl] at h4
        simp only [if_true]
        by_cases hl2 : j + 1 < n
        · rw [if_pos hl2]
          cases hd : digB (Z (j + 1))
          · simp only [Bool.false_eq_true, if_false]
            refine ⟨4, h4, by omega, fun _ => ?_, rfl⟩
            show step 4 (Z (j + 1)) = 9
            simp only [step, hd]; rfl
          · simp only [if_true]
            have g := St.skip d4 d5 h4 hl2 hd
            refine exp_fin g rfl (fun hl3 => ?_)
            have := (skip_spec Z n (j + 1) (by omega)).stop hl3
            simp only [step, this]; rfl
        · rw [if_neg hl2]
          simp only [Bool.false_eq_true, if_false]
          exact ⟨4, h4, by omega, fun a => absurd a hl2, rfl⟩
    · rw [if_neg hlt]
      simp only [if_true]
      exact exp_fin h1 hc1 (fun a => absurd a hlt)

end Go.Proofs.Qxb6608710a

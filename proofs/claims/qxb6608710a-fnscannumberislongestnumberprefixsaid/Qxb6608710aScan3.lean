import Derived.Test.Qxb6608710aScan2
namespace Go.Proofs.Qxb6608710a
open Go.ChangeShapes Go.WideShapes Go.ChangeAt Go.RowKit

set_option maxRecDepth 100000 in
theorem scan6 (b off n cap : Nat) (Z : Nat → Int) (i : Nat) (w : World) (hn : n ≤ 2000000) (hi : i < n) (hc : ∀ j, j < n → w.cell? ⟨b, off + j, none⟩ = some (.int .u8 (Z j))) :
    Calls Try.prog 6 #[.slice (some ⟨b, off, none⟩) n cap, .int .i64 (i : Int)] w fun e w' => e = .returned (.tuple #[.int .i64 ((scan Z n i).1 : Nat), .bool (scan Z n i).2]) ∧ w = w' := by
  go_enter Try.func6, Try.ntmps6
  go_wp2_with fail
  refine (scan11 b off n cap Z i _ hn hi hc).mono ?_
  rintro e w' ⟨rfl, rfl⟩
  go_wp2_with fail
  go_ret2
  exact ⟨rfl, rfl⟩

theorem bytes10 (a : Option Addr) (len cap : Nat) (i : Int) (w : World) (hl : len ≤ 1048576) :
    Calls Try.prog 10 #[.slice a len cap, .int .i64 i] w fun e w' => e = .returned (.bool true) ∧ w = w' := by
  go_enter Try.func10, Try.ntmps10
  go_wp2
  go_ret
  exact ⟨rfl, rfl⟩
theorem bytes10_big (a : Option Addr) (len cap : Nat) (i : Int) (w : World) (hl : ¬ len ≤ 1048576) :
    Calls Try.prog 10 #[.slice a len cap, .int .i64 i] w fun e w' => e = .returned (.bool false) ∧ w = w' := by
  go_enter Try.func10, Try.ntmps10
  go_wp2
  go_ret
  exact ⟨rfl, rfl⟩
theorem bytes5 (a : Option Addr) (len cap : Nat) (i : Int) (w : World) (hl : len ≤ 1048576) :
    Calls Try.prog 5 #[.slice a len cap, .int .i64 i] w fun e w' => e = .returned (.bool true) ∧ w = w' := by
  go_enter Try.func5, Try.ntmps5
  go_wp2
  go_ret
  exact ⟨rfl, rfl⟩
theorem bytes5_big (a : Option Addr) (len cap : Nat) (i : Int) (w : World) (hl : ¬ len ≤ 1048576) :
    Calls Try.prog 5 #[.slice a len cap, .int .i64 i] w fun e w' => e = .returned (.bool false) ∧ w = w' := by
  go_enter Try.func5, Try.ntmps5
  go_wp2
  go_ret
  exact ⟨rfl, rfl⟩

/-! ### a minus put in: the scanner's answer shifts by one -/
section
variable {Z Y : Nat → Int} {n i : Nat}

theorem skip_up (h : ∀ j, i ≤ j → j < n → Y (j + 1) = Z j) {p : Nat} (hp : i ≤ p) (hpn : p ≤ n) : skip Y (n + 1) (p + 1) = skip Z n p + 1 := by
  have s := skip_spec Z n p hpn
  have l := s.lo
  have u := s.hi
  refine IsSkip.eq ⟨by omega, by omega, fun j h1 h2 => ?_, fun h1 => ?_⟩
  · obtain ⟨k, rfl⟩ : ∃ k, j = k + 1 := ⟨j - 1, by omega⟩
    rw [h k (by omega) (by omega)]
    exact s.all k (by omega) (by omega)
  · rw [h _ (by omega) (by omega)]
    exact s.stop (by omega)

theorem intP_up (h : ∀ j, i ≤ j → j < n → Y (j + 1) = Z j) {p : Nat} (hp : i ≤ p) : intP Y (n + 1) (p + 1) = (intP Z n p).map (· + 1) := by
  unfold intP
  by_cases hpn : p < n
  · rw [if_pos hpn, if_pos (by omega), h p hp hpn, skip_up h hp (by omega)]
    split
    · rfl
    · split <;> rfl
  · rw [if_neg hpn, if_neg (by omega)]; rfl

theorem fracP_up (h : ∀ j, i ≤ j → j < n → Y (j + 1) = Z j) {p : Nat} (hp : i ≤ p) : fracP Y (n + 1) (p + 1) = ((fracP Z n p).1 + 1, (fracP Z n p).2) := by
  unfold fracP
  by_cases hpn : p < n
  · rw [if_pos hpn, if_pos (by omega), h p hp hpn]
    split
    · by_cases hq : p + 1 < n
      · rw [if_pos hq, if_pos (by omega), h (p + 1) (by omega) hq, skip_up h (by omega) (by omega)]
        split <;> rfl
      · rw [if_neg hq, if_neg (by omega)]
    · rfl
  · rw [if_neg hpn, if_neg (by omega)]

theorem signP_up (h : ∀ j, i ≤ j → j < n → Y (j + 1) = Z j) {p : Nat} (hp : i ≤ p) : signP Y (n + 1) (p + 1) = signP Z n p + 1 := by
  unfold signP
  by_cases hpn : p < n
  · rw [if_pos hpn, if_pos (by omega), h p hp hpn]
    split
    · rfl
    · split <;> rfl
  · rw [if_neg hpn, if_neg (by omega)]

theorem expP_up (h : ∀ j, i ≤ j → j < n → Y (j + 1) = Z j) {p : Nat} (hp : i ≤ p) : expP Y (n + 1) (p + 1) = ((expP Z n p).1 + 1, (expP Z n p).2) := by
  unfold expP
  by_cases hpn : p < n
  · rw [if_pos hpn, if_pos (by omega), h p hp hpn, signP_up h (p := p + 1) (by omega)]
    have sl := signP_le Z n (p + 1)
    generalize signP Z n (p + 1) = s at *
    split
    · by_cases hq : s < n
      · rw [if_pos hq, if_pos (by omega), h s (by omega) hq, skip_up h (by omega) (by omega)]
        split <;> rfl
      · rw [if_neg hq, if_neg (by omega)]
    · rfl
  · rw [if_neg hpn, if_neg (by omega)]

theorem scan_up (h : ∀ j, i ≤ j → j < n → Y (j + 1) = Z j) (hy : Y i = 45) (hz : (Z i == 45) = false) : scan Y (n + 1) i = ((scan Z n i).1 + 1, (scan Z n i).2) := by
  have e1 : minusP Z i = i := by simp only [minusP, hz]; rfl
  have e2 : minusP Y i = i + 1 := by simp only [minusP, hy]; rfl
  unfold scan
  rw [e1, e2, intP_up h (Nat.le_refl _)]
  cases hj : intP Z n i with
  | none => rfl
  | some j =>
    have := intP_le hj
    simp only [Option.map_some]
    rw [fracP_up h (by omega)]
    have hf := fracP_le Z n j (by omega)
    generalize fracP Z n j = q at *
    obtain ⟨q, v⟩ := q
    cases v
    · rfl
    · simp only [if_true]
      exact expP_up h (by simp at hf; omega)

theorem scan_minus (h : ∀ j, i ≤ j → j < n → Y (j + 1) = Z j) (hi : i < n) (hy : Y i = 45) (hz : Z i = 45) : scan Y (n + 1) i = (i + 1, false) := by
  have e2 : minusP Y i = i + 1 := by simp only [minusP, hy]; rfl
  have e3 : intP Y (n + 1) (i + 1) = none := by
    unfold intP
    rw [if_pos (by omega), h i (Nat.le_refl _) hi, hz]
    rfl
  unfold scan
  rw [e2, e3]
end

theorem signP_leN (Z : Nat → Int) (n i : Nat) (h : i ≤ n) : signP Z n i ≤ n := by
  unfold signP; split
  · split
    · omega
    · split <;> omega
  · omega

theorem scan_le (Z : Nat → Int) {n i : Nat} (hi : i < n) : i ≤ (scan Z n i).1 ∧ (scan Z n i).1 ≤ n := by
  have hm := minusP_le Z i
  unfold scan
  cases hj : intP Z n (minusP Z i) with
  | none => exact ⟨hm.1, by show minusP Z i ≤ n; omega⟩
  | some j =>
    have h1 := intP_le hj
    have h2 := fracP_le Z n j (by omega)
    dsimp only
    generalize fracP Z n j = q at *
    obtain ⟨q, v⟩ := q
    cases v
    · exact ⟨by show i ≤ q; have := h2.1; omega, h2.2⟩
    · simp only [if_true]
      simp only at h2
      unfold expP
      have hs := signP_le Z n (q + 1)
      split
      · split
        · split
          · split
            · have := skip_spec Z n (signP Z n (q + 1)) (by omega)
              have a := this.lo; have b := this.hi
              exact ⟨by show i ≤ _; omega, b⟩
            · exact ⟨by show i ≤ signP Z n (q + 1); omega, by show signP Z n (q + 1) ≤ n; omega⟩
          · exact ⟨by show i ≤ signP Z n (q + 1); omega, signP_leN Z n (q + 1) (by omega)⟩
        · exact ⟨by show i ≤ q; omega, by show q ≤ n; omega⟩
      · exact ⟨by show i ≤ q; omega, by show q ≤ n; omega⟩

end Go.Proofs.Qxb6608710a

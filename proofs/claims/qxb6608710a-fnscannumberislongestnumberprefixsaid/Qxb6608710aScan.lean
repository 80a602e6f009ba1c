import Derived.Test.Qxb6608710aRows
import Derived.WalkKit
import Derived.ProofKit
import Derived.WalkSpells
import Derived.WalkLawsBesides
import Derived.Deep.DeepCutAuto
namespace Go.Proofs.Qxb6608710a
open Go.ChangeShapes Go.WideShapes Go.ChangeAt Go.RowKit

/-! ### the plain scanner -/
def digB (c : Int) : Bool := decide (48 ≤ c ∧ c ≤ 57)

def skipF (Z : Nat → Int) (n : Nat) : Nat → Nat → Nat
  | 0, i => i
  | f + 1, i => if i < n then (if digB (Z i) then skipF Z n f (i + 1) else i) else i

/-- Where the digits that start at i end. -/
def skip (Z : Nat → Int) (n i : Nat) : Nat := skipF Z n (n - i) i

structure IsSkip (Z : Nat → Int) (n i k : Nat) : Prop where
  lo : i ≤ k
  hi : k ≤ n
  all : ∀ j, i ≤ j → j < k → digB (Z j) = true
  stop : k < n → digB (Z k) = false

theorem skipF_spec (Z : Nat → Int) (n : Nat) : ∀ f i, i ≤ n → n - i ≤ f → IsSkip Z n i (skipF Z n f i)
  | 0, i, h, hf => ⟨Nat.le_refl _, h, fun j h1 h2 => by simp [skipF] at h2; omega, fun h2 => by simp [skipF] at h2; omega⟩
  | f + 1, i, h, hf => by
    unfold skipF
    by_cases hi : i < n
    · rw [if_pos hi]
      cases hd : digB (Z i)
      · exact ⟨Nat.le_refl _, h, fun j h1 h2 => by simp at h2; omega, fun _ => by simpa using hd⟩
      · have ih := skipF_spec Z n f (i + 1) (by omega) (by omega)
        simp only [if_true]
        refine ⟨by have := ih.lo; omega, ih.hi, fun j h1 h2 => ?_, ih.stop⟩
        by_cases e : j = i
        · rw [e]; exact hd
        · exact ih.all j (by omega) h2
    · rw [if_neg hi]
      exact ⟨Nat.le_refl _, h, fun j h1 h2 => by omega, fun h2 => by omega⟩

theorem skip_spec (Z : Nat → Int) (n i : Nat) (h : i ≤ n) : IsSkip Z n i (skip Z n i) := skipF_spec Z n (n - i) i h (Nat.le_refl _)

theorem IsSkip.eq {Z : Nat → Int} {n i k : Nat} (h : IsSkip Z n i k) : skip Z n i = k := by
  have g := skip_spec Z n i (Nat.le_trans h.lo h.hi)
  rcases Nat.lt_trichotomy (skip Z n i) k with hlt | heq | hgt
  · have h1 := h.all _ g.lo hlt
    have h2 := g.stop (Nat.lt_of_lt_of_le hlt h.hi)
    rw [h1] at h2; cases h2
  · exact heq
  · have h1 := g.all _ h.lo hgt
    have h2 := h.stop (Nat.lt_of_lt_of_le hgt g.hi)
    rw [h1] at h2; cases h2

def minusP (Z : Nat → Int) (i : Nat) : Nat := if Z i == 45 then i + 1 else i

def intP (Z : Nat → Int) (n i : Nat) : Option Nat :=
  if i < n then (if Z i == 48 then some (i + 1) else if digB (Z i) then some (skip Z n i) else none) else none

def fracP (Z : Nat → Int) (n i : Nat) : Nat × Bool :=
  if i < n then (if Z i == 46 then (if i + 1 < n then (if digB (Z (i + 1)) then (skip Z n (i + 1), true) else (i + 1, false)) else (i + 1, false)) else (i, true)) else (i, true)

def signP (Z : Nat → Int) (n i : Nat) : Nat := if i < n then (if Z i == 43 then i + 1 else if Z i == 45 then i + 1 else i) else i

def expP (Z : Nat → Int) (n i : Nat) : Nat × Bool :=
  if i < n then (if Z i == 101 || Z i == 69 then (if signP Z n (i + 1) < n then (if digB (Z (signP Z n (i + 1))) then (skip Z n (signP Z n (i + 1)), true) else (signP Z n (i + 1), false)) else (signP Z n (i + 1), false)) else (i, true)) else (i, true)

def scan (Z : Nat → Int) (n i : Nat) : Nat × Bool :=
  match intP Z n (minusP Z i) with
  | none => (minusP Z i, false)
  | some j => if (fracP Z n j).2 then expP Z n (fracP Z n j).1 else ((fracP Z n j).1, false)

/-! ### the walks -/
theorem digit12 (c : Int) (w : World) : Calls Try.prog 12 #[.int .u8 c] w fun e w' => e = .returned (.bool (digB c)) ∧ w = w' := by
  by_cases h1 : 48 ≤ c
  · by_cases h2 : c ≤ 57
    · have e : digB c = true := by simp [digB, h1, h2]
      rw [e]
      go_enter Try.func12, Try.ntmps12
      go_wp2
      go_ret
      exact ⟨rfl, rfl⟩
    · have e : digB c = false := by simp [digB, h2]
      rw [e]
      go_enter Try.func12, Try.ntmps12
      go_wp2
      go_ret
      exact ⟨rfl, rfl⟩
  · have e : digB c = false := by simp [digB, h1]
    rw [e]
    go_enter Try.func12, Try.ntmps12
    go_wp2
    go_ret
    exact ⟨rfl, rfl⟩

theorem skip13 (b off n cap : Nat) (Z : Nat → Int) (i : Nat) (w : World) (hn : n ≤ 2000000) (hi : i ≤ n) (hc : ∀ j, j < n → w.cell? ⟨b, off + j, none⟩ = some (.int .u8 (Z j))) :
    Calls Try.prog 13 #[.slice (some ⟨b, off, none⟩) n cap, .int .i64 (i : Int)] w fun e w' => e = .returned (.int .i64 (skip Z n i : Nat)) ∧ w = w' := by
  go_enter Try.func13, Try.ntmps13
  go_wp2
  go_loop [1] (fun y => ∃ k : Nat, i ≤ k ∧ k ≤ n ∧ y = .int .i64 (k : Int) ∧ ∀ j, i ≤ j → j < k → digB (Z j) = true) (fun y => n - (intOf y).toNat)
  case atStart => exact ⟨i, Nat.le_refl _, hi, rfl, fun j h1 h2 => by omega⟩
  case round =>
    obtain ⟨k, hik, hk, rfl, hall⟩ := hrel
    have HA : Hid (∀ j, i ≤ j → j < k → digB (Z j) = true) := hall
    clear hall
    by_cases hlt : k < n
    · have hck := hc k hlt
      cases hd : digB (Z k)
      · have HE : Hid (skip Z n i = k) := IsSkip.eq ⟨hik, hk, HA.out, fun _ => hd⟩
        go_wp2_with fail
        refine (digit12 _ _).mono ?_
        rintro e w' ⟨rfl, rfl⟩
        go_wp2_with fail
        go_ret
        exact ⟨by rw [HE.out]; rfl, rfl⟩
      · go_wp2_with fail
        refine (digit12 _ _).mono ?_
        rintro e w' ⟨rfl, rfl⟩
        go_wp2_with fail
        go_round
        case rel =>
          refine ⟨k + 1, by omega, by omega, by go_num, fun j h1 h2 => ?_⟩
          by_cases e : j = k
          · rw [e]; exact hd
          · exact HA.out j h1 (by omega)
        case measure => simp [intOf]; omega
    · have HE : Hid (skip Z n i = k) := IsSkip.eq ⟨hik, hk, HA.out, fun h => absurd h hlt⟩
      go_wp2
      go_ret
      exact ⟨by rw [HE.out]; rfl, rfl⟩

end Go.Proofs.Qxb6608710a

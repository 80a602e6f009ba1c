import Derived.Test.Qxb6605883aRows
import Derived.WalkKit
import Derived.ProofKit
namespace Go.Proofs.Qxb6605883a.fnHeartbeatKindsAreTwoRequestAnswerPairs
open Go.ChangeShapes Go.WideShapes Go.ChangeAt Go.RowKit

/-- Heartbeat, plainly: the four kinds. -/
def hbB (n : Int) : Bool := n == 8 || n == 9 || n == 38 || n == 39

theorem heartbeat_any (n : Int) (w : World) :
    Calls Try.prog 5 #[.int .u8 n] w fun e w' => e = .returned (.bool (hbB n)) ∧ w' = w := by
  by_cases h1 : n = 8
  · subst h1
    go_enter Try.func5, Try.ntmps5
    go_wp2
    go_ret
    exact ⟨rfl, rfl⟩
  by_cases h2 : n = 9
  · subst h2
    go_enter Try.func5, Try.ntmps5
    go_wp2
    go_ret
    exact ⟨rfl, rfl⟩
  by_cases h3 : n = 38
  · subst h3
    go_enter Try.func5, Try.ntmps5
    go_wp2
    go_ret
    exact ⟨rfl, rfl⟩
  by_cases h4 : n = 39
  · subst h4
    go_enter Try.func5, Try.ntmps5
    go_wp2
    go_ret
    exact ⟨rfl, rfl⟩
  have e : hbB n = false := by simp [hbB, h1, h2, h3, h4]
  rw [e]
  have g1 : (n == 8) = false := by simp [h1]
  have g2 : (n == 9) = false := by simp [h2]
  have g3 : (n == 38) = false := by simp [h3]
  have g4 : (n == 39) = false := by simp [h4]
  clear h1 h2 h3 h4 e
  go_enter Try.func5, Try.ntmps5
  go_wp2
  go_ret
  exact ⟨rfl, rfl⟩

def cnt : Nat → Int
  | 0 => 0
  | k + 1 => cnt k + if hbB k then 1 else 0

theorem hb_xor (k : Nat) (h : k < 256) : hbB (bits BinOp.xor IntKind.u8 (k : Int) 1) = hbB k := by
  have key : (List.range 256).all (fun k => hbB (bits BinOp.xor IntKind.u8 (k : Int) 1) == hbB k) = true := by decide +kernel
  have := List.all_eq_true.1 key k (List.mem_range.2 h)
  simpa using this

theorem hb_small (k : Nat) (h : hbB k = true) : k < 40 := by
  simp [hbB] at h
  omega

theorem cnt_le : ∀ k : Nat, 0 ≤ cnt k ∧ cnt k ≤ k
  | 0 => by simp [cnt]
  | k + 1 => by
    have := cnt_le k
    simp only [cnt]
    split <;> omega

theorem cnt_hit (k : Nat) (h : hbB k = true) : cnt (k + 1) = cnt k + 1 := by simp [cnt, h]
theorem cnt_miss (k : Nat) (h : hbB k = false) : cnt (k + 1) = cnt k := by simp [cnt, h]
theorem cnt_all : cnt 256 = 4 := by decide +kernel

theorem heartbeat_twin (k : Nat) (w : World) (h : k < 256) :
    Calls Try.prog 5 #[.int .u8 (bits BinOp.xor IntKind.u8 (k : Int) 1)] w fun e w' => e = .returned (.bool (hbB k)) ∧ w' = w := by
  have := heartbeat_any (bits BinOp.xor IntKind.u8 (k : Int) 1) w
  rw [hb_xor k h] at this
  exact this

set_option maxRecDepth 100000 in
theorem walk (w : World) :
    Calls Try.prog 3 #[] w fun e w' => e = .returned (.bool true) ∧ Grown w w' := by
  go_enter Try.func3, Try.ntmps3
  go_wp2
  go_loop [1, 2] (fun c i => ∃ k : Nat, k ≤ 256 ∧ i = .int .i64 k ∧ c = .int .i64 (cnt k)) (fun _ i => 256 - (intOf i).toNat)
  case atStart => exact ⟨0, Nat.zero_le _, rfl, rfl⟩
  case round =>
    obtain ⟨k, hk, rfl, rfl⟩ := hrel
    have hc := cnt_le k
    by_cases hlt : k < 256
    · cases hb : hbB (k : Int)
      · have HC : Hid (cnt (k + 1) = cnt k) := cnt_miss k hb
        go_wp2_with fail
        refine (heartbeat_any _ _).mono ?_
        rintro e w' ⟨rfl, rfl⟩
        go_wp2_with fail
        refine (heartbeat_twin k _ hlt).mono ?_
        rintro e w' ⟨rfl, rfl⟩
        go_wp2_with fail
        go_round
        case rel => exact ⟨k + 1, by omega, by go_num, by rw [HC.out]⟩
        case measure => simp [intOf]; omega
      · have HC : Hid (cnt (k + 1) = cnt k + 1) := cnt_hit k hb
        have h40 := hb_small k hb
        go_wp2_with fail
        refine (heartbeat_any _ _).mono ?_
        rintro e w' ⟨rfl, rfl⟩
        go_wp2_with fail
        refine (heartbeat_twin k _ hlt).mono ?_
        rintro e w' ⟨rfl, rfl⟩
        go_wp2_with fail
        go_round
        case rel => exact ⟨k + 1, by omega, by go_num, by rw [HC.out]⟩
        case measure => simp [intOf]; omega
    · obtain rfl : k = 256 := by omega
      have h4 : (cnt 256 == 4) = true := by rw [cnt_all]; rfl
      go_wp2
      go_ret
      exact ⟨rfl, Grown.refl _⟩
end Go.Proofs.Qxb6605883a.fnHeartbeatKindsAreTwoRequestAnswerPairs

import Derived.Test.Qxb6608710aNum
namespace Go.Proofs.Qxb6608710a
open Go.ChangeShapes Go.WideShapes Go.ChangeAt Go.RowKit

set_option maxHeartbeats 1000000 in
set_option maxRecDepth 100000 in
theorem step8 (s : Nat) (hs : s ≤ 9) (c : Int) (w : World) : Calls Try.prog 8 #[.int .i64 (s : Int), .int .u8 c] w fun e w' => e = .returned (.int .i64 (step s c : Nat)) ∧ w = w' := by
  go_enter Try.func8, Try.ntmps8
  go_upto_region 1 with fail
  go_cut [5] (fun y wx => y = .bool (digB c) ∧ w = wx)
  case first =>
    by_cases h1 : 48 ≤ c
    · by_cases h2 : c ≤ 57
      · have HE : Hid (digB c = true) := by show _ = _; simp [digB, h1, h2]
        go_wp2
        go_meet
        case rel => exact ⟨by rw [HE.out], rfl⟩
      · have HE : Hid (digB c = false) := by show _ = _; simp [digB, h2]
        go_wp2
        go_meet
        case rel => exact ⟨by rw [HE.out], rfl⟩
    · have HE : Hid (digB c = false) := by show _ = _; simp [digB, h1]
      go_wp2
      go_meet
      case rel => exact ⟨by rw [HE.out], rfl⟩
  case rest =>
    obtain ⟨rfl, rfl⟩ := hcut
    obtain rfl | rfl | rfl | rfl | rfl | rfl | rfl | rfl | rfl | rfl : s = 0 ∨ s = 1 ∨ s = 2 ∨ s = 3 ∨ s = 4 ∨ s = 5 ∨ s = 6 ∨ s = 7 ∨ s = 8 ∨ s = 9 := by omega
    · have HS : step 0 c = if c == 45 then 1 else if c == 48 then 2 else if digB c then 3 else 9 := rfl
      cases h0 : (c == 45) <;> cases h1 : (c == 48) <;> cases h2 : (digB c) <;> rw [h0, h1, h2] at HS <;> simp at HS <;>
        (have HE : Hid _ := HS; clear HS; go_wp2; try (go_ret; exact ⟨by rw [HE.out]; rfl, rfl⟩))
    · have HS : step 1 c = if c == 48 then 2 else if digB c then 3 else 9 := rfl
      cases h0 : (c == 48) <;> cases h1 : (digB c) <;> rw [h0, h1] at HS <;> simp at HS <;>
        (have HE : Hid _ := HS; clear HS; go_wp2; try (go_ret; exact ⟨by rw [HE.out]; rfl, rfl⟩))
    · have HS : step 2 c = if c == 46 then 4 else if (c == 101 || c == 69) then 6 else 9 := rfl
      cases h0 : (c == 46) <;> cases h1 : (c == 101) <;> cases h2 : (c == 69) <;> rw [h0, h1, h2] at HS <;> simp at HS <;>
        (have HE : Hid _ := HS; clear HS; go_wp2; try (go_ret; exact ⟨by rw [HE.out]; rfl, rfl⟩))
    · have HS : step 3 c = if digB c then 3 else if c == 46 then 4 else if (c == 101 || c == 69) then 6 else 9 := rfl
      cases h0 : (digB c) <;> cases h1 : (c == 46) <;> cases h2 : (c == 101) <;> cases h3 : (c == 69) <;> rw [h0, h1, h2, h3] at HS <;> simp at HS <;>
        (have HE : Hid _ := HS; clear HS; go_wp2; try (go_ret; exact ⟨by rw [HE.out]; rfl, rfl⟩))
    · have HS : step 4 c = if digB c then 5 else 9 := rfl
      cases h0 : (digB c) <;> rw [h0] at HS <;> simp at HS <;>
        (have HE : Hid _ := HS; clear HS; go_wp2; try (go_ret; exact ⟨by rw [HE.out]; rfl, rfl⟩))
    · have HS : step 5 c = if digB c then 5 else if (c == 101 || c == 69) then 6 else 9 := rfl
      cases h0 : (digB c) <;> cases h1 : (c == 101) <;> cases h2 : (c == 69) <;> rw [h0, h1, h2] at HS <;> simp at HS <;>
        (have HE : Hid _ := HS; clear HS; go_wp2; try (go_ret; exact ⟨by rw [HE.out]; rfl, rfl⟩))
    · have HS : step 6 c = if (c == 43 || c == 45) then 7 else if digB c then 8 else 9 := rfl
      cases h0 : (c == 43) <;> cases h1 : (c == 45) <;> cases h2 : (digB c) <;> rw [h0, h1, h2] at HS <;> simp at HS <;>
        (have HE : Hid _ := HS; clear HS; go_wp2; try (go_ret; exact ⟨by rw [HE.out]; rfl, rfl⟩))
    · have HS : step 7 c = if digB c then 8 else 9 := rfl
      cases h0 : (digB c) <;> rw [h0] at HS <;> simp at HS <;>
        (have HE : Hid _ := HS; clear HS; go_wp2; try (go_ret; exact ⟨by rw [HE.out]; rfl, rfl⟩))
    · have HS : step 8 c = if digB c then 8 else 9 := rfl
      cases h0 : (digB c) <;> rw [h0] at HS <;> simp at HS <;>
        (have HE : Hid _ := HS; clear HS; go_wp2; try (go_ret; exact ⟨by rw [HE.out]; rfl, rfl⟩))
    · have HE : Hid (step 9 c = 9) := rfl
      go_wp2
      go_ret
      exact ⟨by rw [HE.out]; rfl, rfl⟩

theorem complete9 (s : Nat) (hs : s ≤ 9) (w : World) : Calls Try.prog 9 #[.int .i64 (s : Int)] w fun e w' => e = .returned (.bool (complete s)) ∧ w = w' := by
  obtain rfl | rfl | rfl | rfl | rfl | rfl | rfl | rfl | rfl | rfl : s = 0 ∨ s = 1 ∨ s = 2 ∨ s = 3 ∨ s = 4 ∨ s = 5 ∨ s = 6 ∨ s = 7 ∨ s = 8 ∨ s = 9 := by omega
  all_goals
    go_enter Try.func9, Try.ntmps9
    go_wp2
    go_ret
    exact ⟨rfl, rfl⟩

set_option maxRecDepth 100000 in
theorem run7 (b off n cap : Nat) (Y : Nat → Int) (w : World) (hn : n ≤ 2000000) (hc : ∀ j, j < n → w.cell? ⟨b, off + j, none⟩ = some (.int .u8 (Y j))) :
    Calls Try.prog 7 #[.slice (some ⟨b, off, none⟩) n cap] w fun e w' => e = .returned (.int .i64 (run Y n : Nat)) ∧ w = w' := by
  go_enter Try.func7, Try.ntmps7
  go_wp2
  go_loop [3, 4] (fun x y => ∃ k : Nat, k ≤ n ∧ x = .int .i64 (run Y k : Nat) ∧ y = .int .i64 (k : Int)) (fun _ y => n - (intOf y).toNat)
  case atStart => exact ⟨0, Nat.zero_le _, rfl, rfl⟩
  case round =>
    obtain ⟨k, hk, rfl, rfl⟩ := hrel
    by_cases hlt : k < n
    · have hck := hc k hlt
      have c8 := step8 (run Y k) (run_le Y k) (Y k) w
      have HE : Hid (run Y (k + 1) = step (run Y k) (Y k)) := rfl
      generalize run Y k = r at *
      go_wp2_with fail
      refine c8.mono ?_
      rintro e w' ⟨rfl, rfl⟩
      go_wp2_with fail
      go_round
      case rel => exact ⟨k + 1, by omega, by rw [HE.out], by go_num⟩
      case measure => simp [intOf]; omega
    · obtain rfl : k = n := by omega
      go_wp2
      go_ret
      exact ⟨rfl, rfl⟩

end Go.Proofs.Qxb6608710a

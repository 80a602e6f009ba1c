import Derived.Test.Qxb6608710aScan
namespace Go.Proofs.Qxb6608710a
open Go.ChangeShapes Go.WideShapes Go.ChangeAt Go.RowKit

theorem minusP_le (Z : Nat → Int) (i : Nat) : i ≤ minusP Z i ∧ minusP Z i ≤ i + 1 := by unfold minusP; split <;> omega
theorem signP_le (Z : Nat → Int) (n i : Nat) : i ≤ signP Z n i ∧ signP Z n i ≤ i + 1 := by
  unfold signP; split
  · split
    · omega
    · split <;> omega
  · omega

theorem intP_le {Z : Nat → Int} {n i j : Nat} (h : intP Z n i = some j) : i < j ∧ j ≤ n := by
  unfold intP at h
  split at h
  · rename_i hi
    split at h
    · cases h; omega
    · split at h
      · rename_i hd
        cases h
        have := skip_spec Z n i (by omega)
        refine ⟨?_, this.hi⟩
        rcases Nat.lt_or_ge i (skip Z n i) with h1 | h1
        · exact h1
        · have e : skip Z n i = i := Nat.le_antisymm h1 this.lo
          have h2 := this.stop (by omega)
          rw [e, hd] at h2; cases h2
      · cases h
  · cases h

theorem fracP_le (Z : Nat → Int) (n i : Nat) (h : i ≤ n) : i ≤ (fracP Z n i).1 ∧ (fracP Z n i).1 ≤ n := by
  unfold fracP
  split
  · split
    · split
      · split
        · have := skip_spec Z n (i + 1) (by omega)
          exact ⟨by have := this.lo; simp; omega, this.hi⟩
        · simp; omega
      · simp; omega
    · simp; omega
  · simp; omega

set_option maxHeartbeats 1000000 in
set_option maxRecDepth 100000 in
theorem scan11 (b off n cap : Nat) (Z : Nat → Int) (i : Nat) (w : World) (hn : n ≤ 2000000) (hi : i < n) (hc : ∀ j, j < n → w.cell? ⟨b, off + j, none⟩ = some (.int .u8 (Z j))) :
    Calls Try.prog 11 #[.slice (some ⟨b, off, none⟩) n cap, .int .i64 (i : Int)] w fun e w' => e = .returned (.tuple #[.int .i64 ((scan Z n i).1 : Nat), .bool (scan Z n i).2]) ∧ w = w' := by
  have hci := hc i hi
  go_enter Try.func11, Try.ntmps11
  go_upto_if 10 with fail
  go_cut [1] (fun y wx => y = .int .i64 (minusP Z i : Nat) ∧ w = wx)
  case first =>
    cases hm : (Z i == 45)
    · have HE : Hid (minusP Z i = i) := by simp only [Hid, minusP, hm]; rfl
      go_wp2
      go_meet
      case rel => exact ⟨by rw [HE.out], rfl⟩
    · have HE : Hid (minusP Z i = i + 1) := by simp only [Hid, minusP, hm]; rfl
      go_wp2
      go_meet
      case rel => exact ⟨by rw [HE.out]; go_num, rfl⟩
  case rest =>
    obtain ⟨rfl, rfl⟩ := hcut
    have hmp := minusP_le Z i
    have HS : Hid (scan Z n i = match intP Z n (minusP Z i) with | none => (minusP Z i, false) | some j => if (fracP Z n j).2 then expP Z n (fracP Z n j).1 else ((fracP Z n j).1, false)) := rfl
    clear hci
    generalize minusP Z i = p at *
    by_cases hp : p < n
    · have hcp := hc p hp
      rename_i hK
      apply hK
      refine wp_seq_k ?_
      intro K2 hK2
      go_cut [1] (fun y wx => ∃ j : Nat, intP Z n p = some j ∧ y = .int .i64 (j : Int) ∧ w = wx)
      case first =>
        cases h0 : (Z p == 48)
        · cases hd : digB (Z p)
          · have HE : Hid (scan Z n i = (p, false)) := by have e : intP Z n p = none := by simp only [intP, hp, h0, hd]; rfl
                                                          show _ = _; rw [HS.out, e]
            go_wp2_with fail
            refine (digit12 _ _).mono ?_
            rintro e w' ⟨rfl, rfl⟩
            go_wp2_with fail
            go_ret2
            exact ⟨by rw [HE.out]; rfl, rfl⟩
          · have HE : Hid (intP Z n p = some (skip Z n p)) := by simp only [Hid, intP, hp, h0, hd]; rfl
            go_wp2_with fail
            refine (digit12 _ _).mono ?_
            rintro e w' ⟨rfl, rfl⟩
            go_wp2_with fail
            refine (skip13 b off n cap Z p _ hn (by omega) hc).mono ?_
            rintro e w' ⟨rfl, rfl⟩
            go_wp2_with fail
            go_meet
            case rel => exact ⟨_, HE.out, rfl, rfl⟩
        · have HE : Hid (intP Z n p = some (p + 1)) := by simp only [Hid, intP, hp, h0]; rfl
          go_wp2
          go_meet
          case rel => exact ⟨_, HE.out, by go_num, rfl⟩
      case rest =>
        obtain ⟨j, hj, rfl, rfl⟩ := hcut
        have hjn := intP_le hj
        have HS2 : Hid (scan Z n i = if (fracP Z n j).2 then expP Z n (fracP Z n j).1 else ((fracP Z n j).1, false)) := by rw [Hid, HS.out, hj]
        clear HS hj hcp
        by_cases hj2 : j < n
        · have hcj := hc j hj2
          go_upto_if 53 with fail
          go_cut [1] (fun y wx => (fracP Z n j).2 = true ∧ y = .int .i64 ((fracP Z n j).1 : Nat) ∧ w = wx)
          case first =>
            cases hdot : (Z j == 46)
            · have HE : Hid (fracP Z n j = (j, true)) := by simp only [Hid, fracP, hj2, hdot]; rfl
              go_wp2
              go_meet
              case rel => exact ⟨by rw [HE.out], by rw [HE.out], rfl⟩
            · by_cases hj3 : j + 1 < n
              · have hcj3 := hc (j + 1) hj3
                rw [← Nat.add_assoc] at hcj3
                cases hd : digB (Z (j + 1))
                · have HE : Hid (scan Z n i = (j + 1, false)) := by have e : fracP Z n j = (j + 1, false) := by simp only [fracP, hj2, hdot, hj3, hd]; rfl
                                                                    show _ = _; rw [HS2.out, e]; rfl
                  go_wp2_with fail
                  refine (digit12 _ _).mono ?_
                  rintro e w' ⟨rfl, rfl⟩
                  go_wp2_with fail
                  go_ret2
                  exact ⟨by rw [HE.out]; rfl, rfl⟩
                · have HE : Hid (fracP Z n j = (skip Z n (j + 1), true)) := by simp only [Hid, fracP, hj2, hdot, hj3, hd]; rfl
                  go_wp2_with fail
                  refine (digit12 _ _).mono ?_
                  rintro e w' ⟨rfl, rfl⟩
                  go_wp2_with fail
                  refine (skip13 b off n cap Z (j + 1) _ hn (by omega) hc).mono ?_
                  rintro e w' ⟨rfl, rfl⟩
                  go_wp2_with fail
                  go_meet
                  case rel => exact ⟨by rw [HE.out], by rw [HE.out], rfl⟩
              · have HE : Hid (scan Z n i = (j + 1, false)) := by have e : fracP Z n j = (j + 1, false) := by simp only [fracP, hj2, hdot, hj3]; rfl
                                                                  show _ = _; rw [HS2.out, e]; rfl
                go_wp2
                go_ret2
                exact ⟨by rw [HE.out]; rfl, rfl⟩
          case rest =>
            obtain ⟨hf, rfl, rfl⟩ := hcut
            have HS3 : Hid (scan Z n i = expP Z n (fracP Z n j).1) := by rw [Hid, HS2.out, hf]; rfl
            have hq := fracP_le Z n j (by omega)
            clear HS2 hf hcj
            generalize (fracP Z n j).1 = q at *
            by_cases hq2 : q < n
            · have hcq := hc q hq2
              go_upto_region 13 with fail
              go_cut [89] (fun y wx => y = .bool (Z q == 101 || Z q == 69) ∧ w = wx)
              case first =>
                cases h1 : (Z q == 101)
                · cases h2 : (Z q == 69)
                  · have HE : Hid ((Z q == 101 || Z q == 69) = false) := by show _ = _; rw [h1, h2]; rfl
                    go_wp2
                    go_meet
                    case rel => exact ⟨by rw [HE.out], rfl⟩
                  · have HE : Hid ((Z q == 101 || Z q == 69) = true) := by show _ = _; rw [h1, h2]; rfl
                    go_wp2
                    go_meet
                    case rel => exact ⟨by rw [HE.out], rfl⟩
                · have HE : Hid ((Z q == 101 || Z q == 69) = true) := by show _ = _; rw [h1]; rfl
                  go_wp2
                  go_meet
                  case rel => exact ⟨by rw [HE.out], rfl⟩
              case rest =>
                obtain ⟨rfl, rfl⟩ := hcut
                cases hx : (Z q == 101 || Z q == 69)
                · have HE : Hid (scan Z n i = (q, true)) := by rw [Hid, HS3.out, expP, if_pos hq2, hx]; rfl
                  go_wp2
                  go_ret2
                  exact ⟨by rw [HE.out]; rfl, rfl⟩
                · have HS4 : Hid (scan Z n i = if signP Z n (q + 1) < n then (if digB (Z (signP Z n (q + 1))) then (skip Z n (signP Z n (q + 1)), true) else (signP Z n (q + 1), false)) else (signP Z n (q + 1), false)) := by rw [Hid, HS3.out, expP, if_pos hq2, hx, if_pos rfl]
                  clear hcq
                  go_upto_region 15 with fail
                  go_cut [109] (fun y wx => y = .bool (if q + 1 < n then (Z (q + 1) == 43 || Z (q + 1) == 45) else false) ∧ w = wx)
                  case first =>
                    by_cases hq3 : q + 1 < n
                    · have hcq3 := hc (q + 1) hq3
                      rw [← Nat.add_assoc] at hcq3
                      cases h1 : (Z (q + 1) == 43)
                      · cases h2 : (Z (q + 1) == 45)
                        · have HE : Hid ((if q + 1 < n then (Z (q + 1) == 43 || Z (q + 1) == 45) else false) = false) := by show _ = _; rw [if_pos hq3, h1, h2]; rfl
                          go_wp2
                          go_meet
                          case rel => exact ⟨by rw [HE.out], rfl⟩
                        · have HE : Hid ((if q + 1 < n then (Z (q + 1) == 43 || Z (q + 1) == 45) else false) = true) := by show _ = _; rw [if_pos hq3, h1, h2]; rfl
                          go_wp2
                          go_meet
                          case rel => exact ⟨by rw [HE.out], rfl⟩
                      · have HE : Hid ((if q + 1 < n then (Z (q + 1) == 43 || Z (q + 1) == 45) else false) = true) := by show _ = _; rw [if_pos hq3, h1]; rfl
                        go_wp2
                        go_meet
                        case rel => exact ⟨by rw [HE.out], rfl⟩
                    · have HE : Hid ((if q + 1 < n then (Z (q + 1) == 43 || Z (q + 1) == 45) else false) = false) := by show _ = _; rw [if_neg hq3]
                      go_wp2
                      go_meet
                      case rel => exact ⟨by rw [HE.out], rfl⟩
                  case rest =>
                    obtain ⟨rfl, rfl⟩ := hcut
                    have HG : Hid (signP Z n (q + 1) = if (if q + 1 < n then (Z (q + 1) == 43 || Z (q + 1) == 45) else false) = true then q + 1 + 1 else q + 1) := by
                      show _ = _
                      unfold signP
                      by_cases hq3 : q + 1 < n
                      · rw [if_pos hq3, if_pos hq3]
                        cases h1 : (Z (q + 1) == 43) <;> cases h2 : (Z (q + 1) == 45) <;> rfl
                      · rw [if_neg hq3, if_neg hq3]; rfl
                    have hsl := signP_le Z n (q + 1)
                    generalize (if q + 1 < n then (Z (q + 1) == 43 || Z (q + 1) == 45) else false) = sg at *
                    go_upto_if 109 with fail
                    go_cut [1] (fun y wx => y = .int .i64 (signP Z n (q + 1) : Nat) ∧ w = wx)
                    case first =>
                      cases sg
                      · go_wp2
                        go_meet
                        case rel => exact ⟨by rw [HG.out]; go_num, rfl⟩
                      · go_wp2
                        go_meet
                        case rel => exact ⟨by rw [HG.out]; go_num, rfl⟩
                    case rest =>
                      obtain ⟨rfl, rfl⟩ := hcut
                      clear HG HS3
                      generalize signP Z n (q + 1) = s at *
                      by_cases hs : s < n
                      · have hcs := hc s hs
                        cases hd : digB (Z s)
                        · have HE : Hid (scan Z n i = (s, false)) := by rw [Hid, HS4.out, if_pos hs, hd]; rfl
                          go_wp2_with fail
                          refine (digit12 _ _).mono ?_
                          rintro e w' ⟨rfl, rfl⟩
                          go_wp2_with fail
                          go_ret2
                          exact ⟨by rw [HE.out]; rfl, rfl⟩
                        · have HE : Hid (scan Z n i = (skip Z n s, true)) := by rw [Hid, HS4.out, if_pos hs, hd]; rfl
                          go_wp2_with fail
                          refine (digit12 _ _).mono ?_
                          rintro e w' ⟨rfl, rfl⟩
                          go_wp2_with fail
                          refine (skip13 b off n cap Z s _ hn (by omega) hc).mono ?_
                          rintro e w' ⟨rfl, rfl⟩
                          go_wp2_with fail
                          go_ret2
                          exact ⟨by rw [HE.out]; rfl, rfl⟩
                      · have HE : Hid (scan Z n i = (s, false)) := by rw [Hid, HS4.out, if_neg hs]
                        go_wp2
                        go_ret2
                        exact ⟨by rw [HE.out]; rfl, rfl⟩
            · have HE : Hid (scan Z n i = (q, true)) := by rw [Hid, HS3.out, expP, if_neg hq2]
              go_wp2
              go_ret2
              exact ⟨by rw [HE.out]; rfl, rfl⟩
        · have HE : Hid (scan Z n i = (j, true)) := by have e : fracP Z n j = (j, true) := by simp only [fracP, hj2]; rfl
                                                       rw [HS2.out, e]; simp only [expP, hj2]; rfl
          go_wp2
          go_ret2
          exact ⟨by rw [HE.out]; rfl, rfl⟩
    · have HE : Hid (scan Z n i = (p, false)) := by have e : intP Z n p = none := by simp only [intP, hp]; rfl
                                                    show _ = _; rw [HS.out, e]
      go_wp2
      go_ret2
      exact ⟨by rw [HE.out]; rfl, rfl⟩

end Go.Proofs.Qxb6608710a

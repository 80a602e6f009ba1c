import Derived.Test.Qxb6608572aSum
namespace Go.Proofs.Qxb6608572a
open Go.ChangeShapes Go.WideShapes Go.ChangeAt Go.RowKit Go.WideMaps Go.Maps

set_option maxHeartbeats 4000000 in
set_option maxRecDepth 100000 in
theorem bytes5 (i ins ver st : ByteArray) (la : Option Addr) (ln lc : Nat) (LG : Nat → Nat → ByteArray) (ba : Option Addr) (bn bc : Nat) (BG : Nat → Nat → ByteArray) (d dl : Option Addr) (DF DLF : Nat → ByteArray) (bl : Bool) (ka : Option Addr) (kn kc : Nat) (KG : Nat → Nat → ByteArray) (l : ByteArray) (w : World)
    (hln : ln ≤ maxLen) (hbn : bn ≤ maxLen) (hkn : kn ≤ maxLen) (hL : Rws w la ln 2 LG) (hB : Rws w ba bn 9 BG) (hK : Rws w ka kn 3 KG) (hD : Ptr w d 4 DF) (hDL : Ptr w dl 3 DLF) :
    Calls Try.prog 5 #[.string i, .string ins, .string ver, .string st, .slice la ln lc, .slice ba bn bc, .pointer d, .pointer dl, .bool bl, .slice ka kn kc, .string l] w fun e w' => RetB e ∧ w = w' := by
  unfold maxLen at hln hbn hkn
  go_enter Try.func5, Try.ntmps5
  go_wp2
  all_goals try (go_ret; exact ⟨⟨_, rfl⟩, rfl⟩)
  go_loop [23, 24] (fun n y => ∃ (k : Nat) (m : Int), k ≤ ln ∧ y = .int .i64 (k : Int) ∧ n = .int .i64 m) (fun _ y => ln - (intOf y).toNat)
  case atStart => exact ⟨0, _, Nat.zero_le _, rfl, rfl⟩
  case round =>
    obtain ⟨k, m3, hk, rfl, rfl⟩ := hrel
    by_cases hlt : k < ln
    · as_aux_lemma =>
      obtain ⟨b, off, ha, hb, hc⟩ := hL.cells hlt
      have hidx := run_row Try.underlying22 size55 ha ln lc k hlt
      have hc0 := hc 0 (by omega)
      simp only [Nat.add_zero] at hc0
      have hc1 := hc 1 (by omega)
      clear ha hc
      go_wp2
      all_goals try (go_ret; exact ⟨⟨_, rfl⟩, rfl⟩)
      go_round
      case rel => exact ⟨k + 1, _, by omega, by go_num, rfl⟩
      case measure => simp [intOf]; omega
    · go_wp2
      all_goals try (go_ret; exact ⟨⟨_, rfl⟩, rfl⟩)
      go_loop [23, 25] (fun n y => ∃ (k : Nat) (m : Int), k ≤ bn ∧ y = .int .i64 (k : Int) ∧ n = .int .i64 m) (fun _ y => bn - (intOf y).toNat)
      case atStart => exact ⟨0, _, Nat.zero_le _, rfl, rfl⟩
      case round =>
        clear hk hlt
        obtain ⟨k, m4, hk, rfl, rfl⟩ := hrel
        by_cases hlt : k < bn
        · as_aux_lemma =>
          obtain ⟨b, off, ha, hb, hc⟩ := hB.cells hlt
          have hidx := run_row Try.underlying23 size57 ha bn bc k hlt
          obtain ⟨hc0, hc1, hc2, hc3, hc4, hc5, hc6, hc7, hc8⟩ := nine (Below.refl _ w) hb hc
          clear ha hc
          go_wp2
          all_goals try (go_ret; exact ⟨⟨_, rfl⟩, rfl⟩)
          go_round
          case rel => exact ⟨k + 1, _, by omega, by go_num, rfl⟩
          case measure => simp [intOf]; omega
        · go_upto_if 281 with fail
          go_cut [23] from 280 to 341 (fun n wx => (∃ m : Int, n = .int .i64 m) ∧ w = wx)
          case first =>
            rcases hD with rfl | ⟨b, off, rfl, hb, hc⟩
            · go_wp2
              go_meet
              case rel => exact ⟨⟨_, rfl⟩, rfl⟩
            · as_aux_lemma =>
              have hc0 := hc 0 (by omega)
              simp only [Nat.add_zero] at hc0
              have hc1 := hc 1 (by omega)
              have hc2 := hc 2 (by omega)
              have hc3 := hc 3 (by omega)
              clear hc
              go_wp2
              all_goals try (go_ret; exact ⟨⟨_, rfl⟩, rfl⟩)
              go_meet
              case rel => exact ⟨⟨_, rfl⟩, rfl⟩
          case rest => as_aux_lemma =>
            obtain ⟨⟨m1, rfl⟩, rfl⟩ := hcut
            clear hD hk hlt
            go_upto_if 343 with fail
            go_cut [23] from 342 to 388 (fun n wx => (∃ m : Int, n = .int .i64 m) ∧ w = wx)
            case first =>
              rcases hDL with rfl | ⟨b, off, rfl, hb, hc⟩
              · go_wp2
                go_meet
                case rel => exact ⟨⟨_, rfl⟩, rfl⟩
              · as_aux_lemma =>
                have hc0 := hc 0 (by omega)
                simp only [Nat.add_zero] at hc0
                have hc1 := hc 1 (by omega)
                have hc2 := hc 2 (by omega)
                clear hc
                go_wp2
                all_goals try (go_ret; exact ⟨⟨_, rfl⟩, rfl⟩)
                go_meet
                case rel => exact ⟨⟨_, rfl⟩, rfl⟩
            case rest => as_aux_lemma =>
              obtain ⟨⟨m2, rfl⟩, rfl⟩ := hcut
              clear hDL
              go_wp2
              all_goals try (go_ret; exact ⟨⟨_, rfl⟩, rfl⟩)
              go_loop [23, 26] (fun n y => ∃ (k : Nat) (m : Int), k ≤ kn ∧ y = .int .i64 (k : Int) ∧ n = .int .i64 m) (fun _ y => kn - (intOf y).toNat)
              case atStart => exact ⟨0, _, Nat.zero_le _, rfl, rfl⟩
              case round =>
                obtain ⟨k, m5, hk, rfl, rfl⟩ := hrel
                by_cases hlt : k < kn
                · as_aux_lemma =>
                  obtain ⟨b, off, ha, hb, hc⟩ := hK.cells hlt
                  have hidx := run_row Try.underlying26 size63 ha kn kc k hlt
                  have hc0 := hc 0 (by omega)
                  simp only [Nat.add_zero] at hc0
                  have hc1 := hc 1 (by omega)
                  have hc2 := hc 2 (by omega)
                  clear ha hc
                  go_wp2
                  all_goals try (go_ret; exact ⟨⟨_, rfl⟩, rfl⟩)
                  go_round
                  case rel => exact ⟨k + 1, _, by omega, by go_num, rfl⟩
                  case measure => simp [intOf]; omega
                · go_wp2
                  all_goals try (go_ret; exact ⟨⟨_, rfl⟩, rfl⟩)

end Go.Proofs.Qxb6608572a

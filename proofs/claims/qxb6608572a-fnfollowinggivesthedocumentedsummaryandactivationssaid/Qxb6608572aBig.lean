import Derived.Test.Qxb6608572aSum
namespace Go.Proofs.Qxb6608572a
open Go.ChangeShapes Go.WideShapes Go.ChangeAt Go.RowKit Go.WideMaps Go.Maps

set_option maxRecDepth 100000 in
/-- One of the three slices is too long: it says so at once. -/
theorem big6 (i ins ver st : ByteArray) (la : Option Addr) (ln lc : Nat) (ba : Option Addr) (bn bc : Nat) (d dl : Option Addr) (ka : Option Addr) (kn kc : Nat) (l : ByteArray) (w : World) (h : 4096 < ln ∨ 4096 < bn ∨ 4096 < kn) :
    Calls Try.prog 6 #[.string i, .string ins, .string ver, .string st, .slice la ln lc, .slice ba bn bc, .pointer d, .pointer dl, .slice ka kn kc, .string l] w fun e w' => e = .returned (.bool true) ∧ w = w' := by
  by_cases h1 : 4096 < (ln : Int)
  · go_enter Try.func6, Try.ntmps6
    go_wp2
    go_ret
    exact ⟨rfl, rfl⟩
  by_cases h2 : 4096 < (bn : Int)
  · go_enter Try.func6, Try.ntmps6
    go_wp2
    go_ret
    exact ⟨rfl, rfl⟩
  have h3 : 4096 < (kn : Int) := by omega
  go_enter Try.func6, Try.ntmps6
  go_wp2
  go_ret
  exact ⟨rfl, rfl⟩

set_option maxHeartbeats 2000000 in
set_option maxRecDepth 100000 in
theorem small6 (i ins ver st : ByteArray) (la : Option Addr) (ln lc : Nat) (LG : Nat → Nat → ByteArray) (ba : Option Addr) (bn bc : Nat) (BG : Nat → Nat → ByteArray) (d dl : Option Addr) (DF DLF : Nat → ByteArray) (ka : Option Addr) (kn kc : Nat) (KG : Nat → Nat → ByteArray) (l : ByteArray) (w : World)
    (hln : ln ≤ 4096) (hbn : bn ≤ 4096) (hkn : kn ≤ 4096) (hL : Rws w la ln 2 LG) (hB : Rws w ba bn 9 BG) (hK : Rws w ka kn 3 KG) (hD : Ptr w d 4 DF) (hDL : Ptr w dl 3 DLF) :
    Calls Try.prog 6 #[.string i, .string ins, .string ver, .string st, .slice la ln lc, .slice ba bn bc, .pointer d, .pointer dl, .slice ka kn kc, .string l] w fun e w' => RetB e ∧ Below w.heap.size w w' := by
  have h1 : (ln : Int) ≤ 4096 := by omega
  have h2 : (bn : Int) ≤ 4096 := by omega
  have h3 : (kn : Int) ≤ 4096 := by omega
  go_enter Try.func6, Try.ntmps6
  go_upto_if 61 with (go_at_call 18; refine (more18 _ _ _).mono ?_; rintro e w' ⟨⟨m, rfl⟩, rfl⟩)
  · go_ret
    exact ⟨⟨_, rfl⟩, Below.refl _ _⟩
  go_cut [21] (fun n wx => (∃ m : Int, n = .int .i64 m) ∧ w = wx)
  case first =>
    rcases hD with rfl | ⟨b, off, rfl, hb, hc⟩
    · go_wp2
      go_meet
      case rel => exact ⟨⟨_, rfl⟩, rfl⟩
    · have hc0 := hc 0 (by omega)
      simp only [Nat.add_zero] at hc0
      have hc1 := hc 1 (by omega)
      have hc2 := hc 2 (by omega)
      have hc3 := hc 3 (by omega)
      clear hc
      go_wp2_with (go_at_call 18; refine (more18 _ _ _).mono ?_; rintro e w' ⟨⟨m, rfl⟩, rfl⟩)
      · go_ret
        exact ⟨⟨_, rfl⟩, Below.refl _ _⟩
      · go_meet
        case rel => exact ⟨⟨_, rfl⟩, rfl⟩
  case rest =>
    obtain ⟨⟨m1, rfl⟩, rfl⟩ := hcut
    clear hD
    go_upto_if 93 with (go_at_call 18; refine (more18 _ _ _).mono ?_; rintro e w' ⟨⟨m, rfl⟩, rfl⟩)
    go_cut [21] (fun n wx => (∃ m : Int, n = .int .i64 m) ∧ w = wx)
    case first =>
      rcases hDL with rfl | ⟨b, off, rfl, hb, hc⟩
      · go_wp2
        go_meet
        case rel => exact ⟨⟨_, rfl⟩, rfl⟩
      · have hc0 := hc 0 (by omega)
        simp only [Nat.add_zero] at hc0
        have hc1 := hc 1 (by omega)
        have hc2 := hc 2 (by omega)
        clear hc
        go_wp2_with (go_at_call 18; refine (more18 _ _ _).mono ?_; rintro e w' ⟨⟨m, rfl⟩, rfl⟩)
        · go_ret
          exact ⟨⟨_, rfl⟩, Below.refl _ _⟩
        · go_meet
          case rel => exact ⟨⟨_, rfl⟩, rfl⟩
    case rest =>
      obtain ⟨⟨m2, rfl⟩, rfl⟩ := hcut
      clear hDL
      go_wp2
      go_loop [21, 22] (fun n y => ∃ (k : Nat) (m : Int), k ≤ ln ∧ y = .int .i64 (k : Int) ∧ n = .int .i64 m) (fun _ y => ln - (intOf y).toNat)
      case atStart => exact ⟨0, _, Nat.zero_le _, rfl, rfl⟩
      case round =>
        obtain ⟨k, m3, hk, rfl, rfl⟩ := hrel
        by_cases hlt : k < ln
        · obtain ⟨b, off, ha, hb, hc⟩ := hL.cells hlt
          have hidx := run_row Try.underlying22 size55 ha ln lc k hlt
          have hc0 := hc 0 (by omega)
          simp only [Nat.add_zero] at hc0
          have hc1 := hc 1 (by omega)
          clear ha hc
          go_wp2_with (go_at_call 18; refine (more18 _ _ _).mono ?_; rintro e w' ⟨⟨m, rfl⟩, rfl⟩)
          · go_ret
            exact ⟨⟨_, rfl⟩, Below.refl _ _⟩
          · go_round
            case rel => exact ⟨k + 1, _, by omega, by go_num, rfl⟩
            case measure => simp [intOf]; omega
        · go_wp2
          go_loopw [21, 23] (fun n y wr => ∃ (k : Nat) (m : Int), k ≤ bn ∧ y = .int .i64 (k : Int) ∧ n = .int .i64 m ∧ Below w.heap.size w wr) (fun _ y _ => bn - (intOf y).toNat)
          case atStart => exact ⟨0, _, Nat.zero_le _, rfl, rfl, Below.refl _ _⟩
          case round =>
            clear hk hlt
            obtain ⟨k, m4, hk, rfl, rfl, hbel⟩ := hrel
            have hsz := hbel.size
            by_cases hlt : k < bn
            · obtain ⟨b, off, ha, hb, hc⟩ := hB.cells hlt
              have hidx := run_row Try.underlying23 size57 ha bn bc k hlt
              obtain ⟨hc0, hc1, hc2, hc3, hc4, hc5, hc6, hc7, hc8⟩ := nine hbel hb hc
              clear ha hc
              go_wp2_with (go_at_call 18; refine (more18 _ _ _).mono ?_; rintro e w' ⟨⟨m, rfl⟩, rfl⟩)
              · go_ret
                exact ⟨⟨_, rfl⟩, hbel.alloc hsz _⟩
              · go_roundw
                case rel => exact ⟨k + 1, _, by omega, by go_num, rfl, hbel.alloc hsz _⟩
                case measure => simp [intOf]; omega
            · go_wp2
              go_loopw [21, 25] (fun n y wr => ∃ (k : Nat) (m : Int), k ≤ kn ∧ y = .int .i64 (k : Int) ∧ n = .int .i64 m ∧ Below w.heap.size w wr) (fun _ y _ => kn - (intOf y).toNat)
              case atStart => exact ⟨0, _, Nat.zero_le _, rfl, rfl, hbel⟩
              case round =>
                clear hk hlt hbel hsz
                obtain ⟨k, m5, hk, rfl, rfl, hbel⟩ := hrel
                by_cases hlt : k < kn
                · obtain ⟨b, off, ha, hb, hc⟩ := hK.cells hlt
                  have hidx := run_row Try.underlying26 size63 ha kn kc k hlt
                  have hc0 := (hbel.cell (p := ⟨b, off + k * 3 + 0, none⟩) hb).trans (hc 0 (by omega))
                  simp only [Nat.add_zero] at hc0
                  have hc1 := (hbel.cell (p := ⟨b, off + k * 3 + 1, none⟩) hb).trans (hc 1 (by omega))
                  have hc2 := (hbel.cell (p := ⟨b, off + k * 3 + 2, none⟩) hb).trans (hc 2 (by omega))
                  clear ha hc
                  go_wp2_with (go_at_call 18; refine (more18 _ _ _).mono ?_; rintro e w' ⟨⟨m, rfl⟩, rfl⟩)
                  · go_ret
                    exact ⟨⟨_, rfl⟩, hbel⟩
                  · go_roundw
                    case rel => exact ⟨k + 1, _, by omega, by go_num, rfl, hbel⟩
                    case measure => simp [intOf]; omega
                · go_wp2
                  go_ret
                  exact ⟨⟨_, rfl⟩, hbel⟩

end Go.Proofs.Qxb6608572a

import Derived.Test.Qxb6608572aLeaf2
namespace Go.Proofs.Qxb6608572a
open Go.ChangeShapes Go.WideShapes Go.ChangeAt Go.RowKit Go.WideMaps Go.Maps

theorem agent20 (i ins ver : ByteArray) (lo : Option Nat) (st : ByteArray) (bo : Option Nat) (d dl : Option Addr) (bl : Bool) (l : ByteArray) (n : Nat) (M : Text → Option ByteArray) (w : World) (hl : l.size ≤ maxLen) (hM : MpO rdS w lo n M) :
    Calls Try.prog 20 #[.agg #[.string i, .string ins, .string ver, .map lo, .int .u64 0, .int .i64 0, .pointer none, .string st, .map bo, .pointer d, .pointer dl, .bool bl], .string l] w
      fun e w' => e = .returned (.string (idOf M l)) ∧ Below w.heap.size w w' := by
  go_enter Try.func20, Try.ntmps20
  go_wp2_with fail
  refine (agent25 lo l n M _ hl (hM.alloc _)).mono ?_
  rintro e w' ⟨rfl, hb⟩
  go_wp2_with fail
  go_ret
  exact ⟨rfl, ((Below.refl _ _).alloc (Nat.le_refl _) _).trans (hb.mono (by simp))⟩

theorem want11 (a : Option Addr) (len cap : Nat) (G : Nat → Nat → ByteArray) (l : ByteArray) (w : World) (hm : len ≤ maxLen) (hr : Rws w a len 2 G) :
    Calls Try.prog 11 #[.slice a len cap, .string l] w fun e w' => e = .returned (.string (idOf (labM G len) l)) ∧ w = w' := by
  cases hl : l.toList.isEmpty
  · have e : nameOf l = l := by simp only [nameOf, hl, Bool.false_eq_true, if_false]
    cases h : ((labM G len l.toList).getD ByteArray.empty).toList.isEmpty
    · have HE : Hid (idOf (labM G len) l = (labM G len l.toList).getD ByteArray.empty) := by unfold idOf; rw [e, h]; rfl
      clear e
      go_enter Try.func11, Try.ntmps11
      go_wp2_with fail
      refine (labelAt a len cap G l _ hm hr).mono ?_
      rintro e w' ⟨rfl, rfl⟩
      generalize (labM G len l.toList).getD ByteArray.empty = v at *
      go_wp2_with fail
      go_ret
      exact ⟨by rw [HE.out]; rfl, rfl⟩
    · have HE : Hid (idOf (labM G len) l = (labM G len idStr.toList).getD ByteArray.empty) := by unfold idOf; rw [e, h]; rfl
      clear e
      go_enter Try.func11, Try.ntmps11
      go_wp2_with fail
      refine (labelAt a len cap G l _ hm hr).mono ?_
      rintro e w' ⟨rfl, rfl⟩
      generalize (labM G len l.toList).getD ByteArray.empty = v at *
      go_wp2_with fail
      refine (labelAt a len cap G idStr _ hm hr).mono ?_
      rintro e w' ⟨rfl, rfl⟩
      go_wp2_with fail
      go_ret
      exact ⟨by rw [HE.out]; rfl, rfl⟩
  · have e : nameOf l = idStr := by simp only [nameOf, hl, if_true]
    cases h : ((labM G len idStr.toList).getD ByteArray.empty).toList.isEmpty
    · have HE : Hid (idOf (labM G len) l = (labM G len idStr.toList).getD ByteArray.empty) := by unfold idOf; rw [e, h]; rfl
      clear e
      go_enter Try.func11, Try.ntmps11
      go_wp2_with fail
      refine (labelAt a len cap G idStr _ hm hr).mono ?_
      rintro e w' ⟨rfl, rfl⟩
      generalize (labM G len idStr.toList).getD ByteArray.empty = v at *
      go_wp2_with fail
      go_ret
      exact ⟨by rw [HE.out]; rfl, rfl⟩
    · have HE : Hid (idOf (labM G len) l = (labM G len idStr.toList).getD ByteArray.empty) := by unfold idOf; rw [e, h]; rfl
      clear e
      go_enter Try.func11, Try.ntmps11
      go_wp2_with fail
      refine (labelAt a len cap G idStr _ hm hr).mono ?_
      rintro e w' ⟨rfl, rfl⟩
      have HL := labelAt a len cap G idStr
      generalize hv : (labM G len idStr.toList).getD ByteArray.empty = v at *
      have HV : Hid ((labM G len idStr.toList).getD ByteArray.empty = v) := hv
      clear hv
      clear HL
      go_wp2_with fail
      refine (labelAt a len cap G idStr _ hm hr).mono ?_
      rintro e w' ⟨rfl, rfl⟩
      rw [HV.out]
      go_wp2_with fail
      go_ret
      exact ⟨by rw [HE.out]; rfl, rfl⟩

/-- The bundle that a row stands for, with another first activation. -/
def bunOf (G : Nat → Nat → ByteArray) (i : Nat) (first : ByteArray) : Bun := ⟨G i 1, G i 2, first, G i 4, G i 5, G i 6, G i 7, G i 8⟩

theorem bundle19 (g0 g1 g2 g3 g4 g5 g6 g7 g8 f : ByteArray) (w : World) :
    Calls Try.prog 19 #[.agg #[.string g0, .string g1, .string g2, .string g3, .string g4, .string g5, .string g6, .string g7, .string g8], .string f] w
      fun e w' => e = .returned (.agg #[.string g1, .string g2, .string f, .string g4, .string g5, .string g6, .string g7, .string g8]) ∧ Below w.heap.size w w' := by
  go_enter Try.func19, Try.ntmps19
  go_wp2
  exact bodyPost_ret (v := .agg #[.string g1, .string g2, .string f, .string g4, .string g5, .string g6, .string g7, .string g8]) (by simp [results, Try.results19, go_sem]) rfl ⟨rfl, ((Below.refl _ _).alloc (Nat.le_refl _) _).alloc (by simp) _⟩

/-- It returns a bool, whichever. -/
def RetB (e : Ending) : Prop := ∃ b : Bool, e = .returned (.bool b)
/-- It returns an int, whichever. -/
def RetI (e : Ending) : Prop := ∃ n : Int, e = .returned (.int .i64 n)

theorem more18 (n k : Int) (w : World) : Calls Try.prog 18 #[.int .i64 n, .int .i64 k] w fun e w' => RetI e ∧ w = w' := by
  go_enter Try.func18, Try.ntmps18
  go_wp2
  all_goals (go_ret; exact ⟨⟨_, rfl⟩, rfl⟩)

theorem isLast_no {nm : Nat → Text} {N i k : Nat} (h1 : i < k) (h2 : k < N) (h : nm k = nm i) : isLast nm N i = false := by
  unfold isLast
  rw [beq_eq_false_iff_ne]
  intro e
  exact lastIdx_above e h1 h2 h

theorem isLast_yes {nm : Nat → Text} {N i : Nat} (hi : i < N) (h : ∀ k, i < k → k < N → nm k ≠ nm i) : isLast nm N i = true := by
  unfold isLast
  rw [lastIdx_is hi rfl h]
  simp

theorem last22 (a : Option Addr) (len cap : Nat) (G : Nat → Nat → ByteArray) (i : Nat) (w : World) (hm : len ≤ maxLen) (hr : Rws w a len 2 G) (hi : i < len) :
    Calls Try.prog 22 #[.slice a len cap, .int .i64 (i : Int)] w fun e w' => e = .returned (.bool (isLast (nmOf G) len i)) ∧ ∃ q, w' = w.drewN q := by
  have hm' := hm
  unfold maxLen at hm'
  obtain ⟨b, off, ha, hb, hc⟩ := hr.cells hi
  have hci := hc 0 (by omega)
  simp only [Nat.add_zero] at hci
  have hidi := run_row Try.underlying22 size55 ha len cap i hi
  clear ha hc
  go_enter Try.func22, Try.ntmps22
  go_wp2
  go_loopw [5] (fun y wr => ∃ (k q : Nat), i < k ∧ k ≤ len ∧ y = .int .i64 (k : Int) ∧ (∀ j, i < j → j < k → (G j 0).toList ≠ (G i 0).toList) ∧ wr = w.drewN q) (fun y _ => len - (intOf y).toNat)
  case atStart => exact ⟨i + 1, 0, by omega, by omega, by go_num, fun j h1 h2 => by omega, rfl⟩
  case round =>
    obtain ⟨k, q, hik, hk, rfl, hno, rfl⟩ := hrel
    have HN : Hid (∀ j, i < j → j < k → (G j 0).toList ≠ (G i 0).toList) := hno
    clear hno
    by_cases hlt : k < len
    · obtain ⟨b2, off2, ha, hb2, hc⟩ := hr.cells hlt
      have hck := hc 0 (by omega)
      simp only [Nat.add_zero] at hck
      have hidk := run_row Try.underlying22 size55 ha len cap k hlt
      clear ha hc
      by_cases heq : ((G k 0).toList == (G i 0).toList) = true
      · have HE : Hid (isLast (nmOf G) len i = false) := isLast_no hik hlt (by simpa [nmOf] using heq)
        go_wp2
        go_quiet (fail)
        go_wp2
        go_ret
        exact ⟨by rw [HE.out]; rfl, ⟨q + nq, by simp⟩⟩
      · go_wp2
        go_quiet (fail)
        go_wp2
        go_roundw
        case rel =>
          refine ⟨k + 1, q + nq, by omega, by omega, by go_num, fun j h1 h2 => ?_, by simp⟩
          by_cases h : j = k
          · subst h; simpa using heq
          · exact HN.out j h1 (by omega)
        case measure => simp [intOf]; omega
    · have HE : Hid (isLast (nmOf G) len i = true) := isLast_yes hi (fun k' h1 h2 => HN.out k' h1 (by omega))
      go_wp2
      go_ret
      exact ⟨by rw [HE.out]; rfl, ⟨_, rfl⟩⟩

end Go.Proofs.Qxb6608572a

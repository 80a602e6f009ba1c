import Derived.Test.Qxb6605967aRows
import Derived.WalkKit
import Derived.ProofKit
import Derived.WalkSpells
import Derived.Deep.OwnRows
namespace Go.Proofs.Qxb6605967a
open Go.ChangeShapes Go.WideShapes Go.ChangeAt Go.RowKit

/-- A slice of strings as the walks see it: of no element; or it leads to cells that hold 'S 0', 'S 1', ... -/
def Strs (w : World) (a : Option Addr) (len : Nat) (S : Nat → ByteArray) : Prop :=
  len = 0 ∨ ∃ b off, a = some ⟨b, off, none⟩ ∧ b < w.heap.size ∧ ∀ j, j < len → w.cell? ⟨b, off + j, none⟩ = some (.string (S j))

/-- It returns a bool, whichever. -/
def RetB (e : Ending) : Prop := ∃ b : Bool, e = .returned (.bool b)

set_option maxRecDepth 100000 in
theorem bytes9_nil (a : Option Addr) (cap : Nat) (w : World) :
    Calls Try.prog 9 #[.slice a 0 cap] w fun e w' => RetB e ∧ w' = w := by
  go_enter Try.func9, Try.ntmps9
  go_wp2
  refine wp_loop_rounds 1 ?_
  rw [rounds_succ]
  go_wp2
  go_ret
  exact ⟨⟨_, rfl⟩, rfl⟩

set_option maxRecDepth 100000 in
theorem bytes9_some (b off len cap : Nat) (S : Nat → ByteArray) (w : World) (hm : len ≤ maxLen)
    (hc : ∀ j, j < len → w.cell? ⟨b, off + j, none⟩ = some (.string (S j))) :
    Calls Try.prog 9 #[.slice (some ⟨b, off, none⟩) len cap] w fun e w' => RetB e ∧ w' = w := by
  unfold maxLen at hm
  by_cases hbig : 1048576 < (len : Int)
  · go_enter Try.func9, Try.ntmps9
    go_wp2
    go_ret
    exact ⟨⟨_, rfl⟩, rfl⟩
  go_enter Try.func9, Try.ntmps9
  go_wp2
  go_loop [3, 4] (fun z i => ∃ (k : Nat) (t : Int), k ≤ len ∧ i = .int .i64 k ∧ z = .int .i64 t) (fun _ i => len - (intOf i).toNat)
  case atStart => exact ⟨0, _, Nat.zero_le _, rfl, rfl⟩
  case round =>
    obtain ⟨k, t, hk, rfl, rfl⟩ := hrel
    by_cases hlt : k < len
    · have hcx := hc k hlt
      go_wp2
      · go_ret
        exact ⟨⟨_, rfl⟩, rfl⟩
      · go_ret
        exact ⟨⟨_, rfl⟩, rfl⟩
      · go_round
        case rel => exact ⟨k + 1, _, by omega, by go_num, rfl⟩
        case measure => simp [intOf]; omega
    · go_wp2
      go_ret
      exact ⟨⟨_, rfl⟩, rfl⟩

theorem bytes9 (a : Option Addr) (len cap : Nat) (S : Nat → ByteArray) (w : World) (hm : len ≤ maxLen) (hs : Strs w a len S) :
    Calls Try.prog 9 #[.slice a len cap] w fun e w' => RetB e ∧ w' = w := by
  rcases hs with rfl | ⟨b, off, rfl, _, hc⟩
  · exact bytes9_nil a cap w
  · exact bytes9_some b off len cap S w hm hc

/-! ### rulefileB1CloneStrings -/
theorem Try.info9 : (Try.prog.info? 9).map (fun i => (i.zero, i.size, i.bytes)) = some (some (.string ByteArray.empty), 1, 16) := by kernel_rfl

theorem clone10_nil (w : World) :
    Calls Try.prog 10 #[.slice none 0 0] w fun e w' => e = .returned (.slice none 0 0) ∧ w' = w := by
  have q := fun (w : World) (a : Option Addr) (n c n' c' : Nat) => Lib.run_eql_slice_nil (P := Try.prog) w _ _ a n c n' c' Try.underlying24
  go_enter Try.func10, Try.ntmps10
  go_wp2
  go_ret
  exact ⟨rfl, rfl⟩

set_option maxRecDepth 100000 in
/-- A slice of no element that is not nil, wherever it points. -/
theorem clone10_empty (x : Addr) (cap : Nat) (w : World) :
    Calls Try.prog 10 #[.slice (some x) 0 cap] w fun e w' => e = .returned (.slice (some ⟨w.heap.size, 0, none⟩) 0 0) ∧ Below w.heap.size w w' := by
  have q := fun (w : World) (a : Option Addr) (n c n' c' : Nat) => Lib.run_eql_slice_nil (P := Try.prog) w _ _ a n c n' c' Try.underlying24
  have hmk : ∀ w : World, (Instr.makeSlice 24 (.int .i64 0) (.int .i64 0)).run Try.prog w = .ok (.slice (some ⟨w.heap.size, 0, none⟩) 0 0) (w.alloc (.cells (madeCells #[.string ByteArray.empty] 0) 9)) :=
    fun w => run_make_row' (P := Try.prog) 24 9 (.string ByteArray.empty) 16 Try.underlying24 Try.info9 rfl .i64 .i64 0 (by omega) (by omega) w
  go_enter Try.func10, Try.ntmps10
  go_wp2
  refine wp_loop_rounds 1 ?_
  rw [rounds_succ]
  go_wp2
  go_ret
  exact ⟨rfl, (Below.refl _ _).alloc (Nat.le_refl _) _⟩

set_option maxRecDepth 100000 in
theorem clone10_some (b off len cap : Nat) (S : Nat → ByteArray) (w : World) (hm : len ≤ 4096) (hb : b < w.heap.size)
    (hc : ∀ j, j < len → w.cell? ⟨b, off + j, none⟩ = some (.string (S j))) :
    Calls Try.prog 10 #[.slice (some ⟨b, off, none⟩) len cap] w fun e w' => e = .returned (.slice (some ⟨w.heap.size, 0, none⟩) len len) ∧
      w'.rowIs w.heap.size 9 len (fun j => .string (S j)) ∧ Below w.heap.size w w' := by
  have q := fun (w : World) (a : Option Addr) (n c n' c' : Nat) => Lib.run_eql_slice_nil (P := Try.prog) w _ _ a n c n' c' Try.underlying24
  have hmk := run_make_row' (P := Try.prog) 24 9 (.string ByteArray.empty) 16 Try.underlying24 Try.info9 rfl .i64 .i64 len (by omega) (by omega)
  go_enter Try.func10, Try.ntmps10
  go_wp2
  go_loopw [4] (fun i wr => ∃ k : Nat, k ≤ len ∧ i = .int .i64 k ∧ wr.rowIs w.heap.size 9 len (fun j => if j < k then .string (S j) else .string ByteArray.empty) ∧ Below w.heap.size w wr) (fun i _ => len - (intOf i).toNat)
  case atStart => exact ⟨0, Nat.zero_le _, rfl, (World.rowIs_made _ _ _ _).congr (fun j _ => by simp), (Below.refl _ _).alloc (Nat.le_refl _) _⟩
  case round =>
    obtain ⟨k, hk, rfl, hrow, hbel⟩ := hrel
    by_cases hlt : k < len
    · have hcx : wr.cell? ⟨b, off + k, none⟩ = some (.string (S k)) := (hbel.cell (by exact hb)).trans (hc k hlt)
      have hco := hrow.cell hlt
      have hfr := hrow.frozen k
      simp only [Nat.lt_irrefl, if_false] at hco
      go_wp2
      go_roundw
      case rel =>
        refine ⟨k + 1, by omega, by go_num, (hrow.set k _).congr (fun j _ => ?_), hbel.setCell (Nat.le_refl _) _⟩
        show (if j = k then _ else _) = _
        by_cases h1 : j = k
        · subst h1; simp
        · rw [if_neg h1]
          by_cases h2 : j < k
          · rw [if_pos h2, if_pos (by omega)]
          · rw [if_neg h2, if_neg (by omega)]
      case measure => simp [intOf]; omega
    · obtain rfl : k = len := by omega
      go_wp2
      go_ret
      exact ⟨rfl, hrow.congr (fun j hj => if_pos hj), hbel⟩

end Go.Proofs.Qxb6605967a

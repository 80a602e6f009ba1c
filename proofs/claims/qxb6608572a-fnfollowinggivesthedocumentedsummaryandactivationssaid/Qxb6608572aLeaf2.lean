import Derived.Test.Qxb6608572aLeaf
namespace Go.Proofs.Qxb6608572a
open Go.ChangeShapes Go.WideShapes Go.ChangeAt Go.RowKit Go.WideMaps Go.Maps

/-- The labels' map: the value of the last label of a name. -/
def labM (G : Nat → Nat → ByteArray) (len : Nat) : Text → Option ByteArray := rowsMap (nmOf G) (fun i => G i 1) len

theorem labelAt (a : Option Addr) (len cap : Nat) (G : Nat → Nat → ByteArray) (x : ByteArray) (w : World) (hm : len ≤ maxLen) (hr : Rws w a len 2 G) :
    Calls Try.prog 10 #[.slice a len cap, .string x] w fun e w' => e = .returned (.tuple #[.string ((labM G len x.toList).getD ByteArray.empty), .bool (labM G len x.toList).isSome]) ∧ w = w' := by
  cases h : lastIdx (nmOf G) len x.toList with
  | none =>
    have e : labM G len x.toList = none := by simp [labM, rowsMap, h]
    rw [e]
    exact labelAt_no a len cap G x w hm hr h
  | some i =>
    have e : labM G len x.toList = some (G i 1) := by simp [labM, rowsMap, h]
    rw [e]
    exact labelAt_yes a len cap G x w hm hr i h

/-- "id" -/
def idStr : ByteArray := ⟨#[105, 100]⟩
def nameOf (l : ByteArray) : ByteArray := if l.toList.isEmpty then idStr else l
/-- The id that the label picks. -/
def idOf (M : Text → Option ByteArray) (l : ByteArray) : ByteArray :=
  if ((M (nameOf l).toList).getD ByteArray.empty).toList.isEmpty then (M idStr.toList).getD ByteArray.empty else (M (nameOf l).toList).getD ByteArray.empty

theorem idStr_size : idStr.size ≤ maxLen := by unfold maxLen; decide

theorem name29 (l : ByteArray) (w : World) : Calls Try.prog 29 #[.string l] w fun e w' => e = .returned (.string (nameOf l)) ∧ w = w' := by
  cases h : l.toList.isEmpty
  · have e : nameOf l = l := by simp only [nameOf, h, Bool.false_eq_true, if_false]
    rw [e]
    clear e
    go_enter Try.func29, Try.ntmps29
    go_wp2
    go_ret
    exact ⟨rfl, rfl⟩
  · have e : nameOf l = idStr := by simp only [nameOf, h, if_true]
    rw [e]
    clear e
    go_enter Try.func29, Try.ntmps29
    go_wp2
    go_ret
    exact ⟨rfl, rfl⟩

theorem look28 (s : ByteArray) (b off : Nat) (o : Option Nat) (n : Nat) (M : Text → Option ByteArray) (w : World) (hs : s.size ≤ maxLen) (hc : w.cell? ⟨b, off, none⟩ = some (.map o)) (hM : MpO rdS w o n M) :
    Calls Try.prog 28 #[.string s, .pointer (some ⟨b, off, none⟩)] w fun e w' => e = .returned (.string ((M s.toList).getD ByteArray.empty)) ∧ w = w' := by
  have hl : (Instr.lookup 29 (.map o) (.string s) false).run Try.prog w = .ok (.string ((M s.toList).getD ByteArray.empty)) w := hM.look Try.underlying29 (zero9 w) s hs
  clear hM
  go_enter Try.func28, Try.ntmps28
  go_wp2
  go_ret
  exact ⟨rfl, rfl⟩

theorem nameOf_size (l : ByteArray) (h : l.size ≤ maxLen) : (nameOf l).size ≤ maxLen := by
  unfold nameOf
  split
  · exact idStr_size
  · exact h

theorem of27 (l : ByteArray) (b off : Nat) (o : Option Nat) (n : Nat) (M : Text → Option ByteArray) (w : World) (hl : l.size ≤ maxLen) (hc : w.cell? ⟨b, off, none⟩ = some (.map o)) (hM : MpO rdS w o n M) :
    Calls Try.prog 27 #[.string l, .func (.func 28) #[] #[.pointer (some ⟨b, off, none⟩)]] w fun e w' => e = .returned (.string (idOf M l)) ∧ w = w' := by
  go_enter Try.func27, Try.ntmps27
  go_wp2_with fail
  refine (name29 l _).mono ?_
  rintro e w' ⟨rfl, rfl⟩
  go_wp2_with fail
  refine (look28 (nameOf l) b off o n M _ (nameOf_size l hl) hc hM).mono ?_
  rintro e w' ⟨rfl, rfl⟩
  cases h : ((M (nameOf l).toList).getD ByteArray.empty).toList.isEmpty
  · have HE : Hid (idOf M l = (M (nameOf l).toList).getD ByteArray.empty) := by unfold idOf; rw [h]; rfl
    generalize (M (nameOf l).toList).getD ByteArray.empty = v at *
    go_wp2_with fail
    go_ret
    exact ⟨by rw [HE.out]; rfl, rfl⟩
  · have HE : Hid (idOf M l = (M idStr.toList).getD ByteArray.empty) := by unfold idOf; rw [h]; rfl
    generalize (M (nameOf l).toList).getD ByteArray.empty = v at *
    go_wp2_with fail
    refine (look28 idStr b off o n M _ idStr_size hc hM).mono ?_
    rintro e w' ⟨rfl, rfl⟩
    go_wp2_with fail
    go_ret
    exact ⟨by rw [HE.out]; rfl, rfl⟩

theorem agent25 (o : Option Nat) (l : ByteArray) (n : Nat) (M : Text → Option ByteArray) (w : World) (hl : l.size ≤ maxLen) (hM : MpO rdS w o n M) :
    Calls Try.prog 25 #[.map o, .string l] w fun e w' => e = .returned (.string (idOf M l)) ∧ Below w.heap.size w w' := by
  have hmf : ∀ (fn : Fn) (first cap : Array Value) (w : World), (Instr.makeFunc fn first cap).run Try.prog w = .ok (.func fn first cap) w := fun _ _ _ _ => rfl
  go_enter Try.func25, Try.ntmps25
  go_wp2_with fail
  refine (of27 l w.heap.size 0 o n M _ hl (by simp) (hM.alloc _)).mono ?_
  rintro e w' ⟨rfl, rfl⟩
  go_wp2_with fail
  go_ret
  exact ⟨rfl, (Below.refl _ _).alloc (Nat.le_refl _) _⟩

end Go.Proofs.Qxb6608572a

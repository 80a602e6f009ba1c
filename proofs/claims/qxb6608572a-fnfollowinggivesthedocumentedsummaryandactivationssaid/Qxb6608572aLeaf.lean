import Derived.Test.Qxb6608572aKinds
import Derived.BigQuiet
namespace Go.Proofs.Qxb6608572a
open Go.ChangeShapes Go.WideShapes Go.ChangeAt Go.RowKit Go.WideMaps Go.Maps

/-- A slice of structs of wd strings each: of no element; or it leads to cells that hold the fields 'G i c'. -/
def Rws (w : World) (a : Option Addr) (len wd : Nat) (G : Nat → Nat → ByteArray) : Prop :=
  len = 0 ∨ ∃ b off, a = some ⟨b, off, none⟩ ∧ b < w.heap.size ∧ ∀ i c, i < len → c < wd → w.cell? ⟨b, off + i * wd + c, none⟩ = some (.string (G i c))

theorem Rws.cells {w : World} {a : Option Addr} {len wd : Nat} {G : Nat → Nat → ByteArray} (h : Rws w a len wd G) {i : Nat} (hi : i < len) :
    ∃ b off, a = some ⟨b, off, none⟩ ∧ b < w.heap.size ∧ ∀ c, c < wd → w.cell? ⟨b, off + i * wd + c, none⟩ = some (.string (G i c)) := by
  rcases h with h | ⟨b, off, ha, hb, hc⟩
  · omega
  · exact ⟨b, off, ha, hb, fun c hcw => hc i c hi hcw⟩

theorem Rws.below {w w' : World} {a : Option Addr} {len wd : Nat} {G : Nat → Nat → ByteArray} (h : Rws w a len wd G) (hb : Below w.heap.size w w') : Rws w' a len wd G := by
  rcases h with h | ⟨b, off, ha, hlt, hc⟩
  · exact Or.inl h
  · exact Or.inr ⟨b, off, ha, Nat.lt_of_lt_of_le hlt hb.size, fun i c hi hcw => (hb.cell (p := ⟨b, off + i * wd + c, none⟩) hlt).trans (hc i c hi hcw)⟩

theorem Rws.drewN {w : World} {a : Option Addr} {len wd : Nat} {G : Nat → Nat → ByteArray} (h : Rws w a len wd G) (q : Nat) : Rws (w.drewN q) a len wd G := h

theorem run_size {e : TypeId} {n : Nat} (h : (Try.prog.info? e).map (·.size) = some n) (w : World) : (sizeOf e).run Try.prog w = .ok n w := by
  obtain ⟨i, hi, hn⟩ := Option.map_eq_some_iff.1 h
  simp [sizeOf, typeInfo, hi, hn]

theorem size55 : (Try.prog.info? 55).map (·.size) = some 2 := by kernel_rfl
theorem size57 : (Try.prog.info? 57).map (·.size) = some 9 := by kernel_rfl
theorem size63 : (Try.prog.info? 63).map (·.size) = some 3 := by kernel_rfl

/-- 'xs[m]', an index in range, whatever stands for the slice's address. -/
theorem run_row {t e : TypeId} {wd : Nat} (ht : Try.prog.underlying t = some (.slice e)) (hs : (Try.prog.info? e).map (·.size) = some wd) {a : Option Addr} {b off : Nat} (ha : a = some ⟨b, off, none⟩) (len cap m : Nat) (hm : m < len) (w : World) :
    (Instr.indexAt t (.slice a len cap) (.int .i64 (m : Int))).run Try.prog w = .ok (.pointer (some ⟨b, off + m * wd, none⟩)) w := by
  subst ha
  have he : Try.prog.elem t = e := by simp [Program.elem, ht]
  rw [run_indexAt_slice w t _ len cap .i64 (m : Int) (by rw [he]; exact ht), if_pos (by omega), he, run_size hs]
  simp [Result.andThen, Addr.add]


def nmOf (G : Nat → Nat → ByteArray) : Nat → Text := fun i => (G i 0).toList

/-! ### zzSt1LabelAt, zzSt1BundleAt, zzSt1KnownAt -/

theorem labelAt_no (a : Option Addr) (len cap : Nat) (G : Nat → Nat → ByteArray) (x : ByteArray) (w : World) (hm : len ≤ maxLen) (hr : Rws w a len 2 G)
    (hno : lastIdx (nmOf G) len x.toList = none) :
    Calls Try.prog 10 #[.slice a len cap, .string x] w fun e w' => e = .returned (.tuple #[.string ByteArray.empty, .bool false]) ∧ w = w' := by
  have hm' := hm
  unfold maxLen at hm'
  have HN : Hid (∀ i, i < len → (G i 0).toList ≠ x.toList) := lastIdx_none.1 hno
  clear hno
  go_enter Try.func10, Try.ntmps10
  go_wp2
  go_loop [6] (fun i => ∃ k : Nat, k ≤ len ∧ i = .int .i64 ((k : Int) - 1)) (fun i => (intOf i + 1).toNat)
  case atStart => exact ⟨len, Nat.le_refl _, rfl⟩
  case round =>
    obtain ⟨k, hk, rfl⟩ := hrel
    cases k with
    | zero =>
      go_wp2
      go_ret2
      exact ⟨rfl, rfl⟩
    | succ m =>
      have em : (((m + 1 : Nat) : Int) - 1) = (m : Int) := by omega
      rw [em]
      clear em
      have hml : m < len := by omega
      obtain ⟨b, off, ha, hb, hc⟩ := hr.cells hml
      have hc0 := hc 0 (by omega)
      simp only [Nat.add_zero] at hc0
      have hne : ((G m 0).toList == x.toList) = false := by simpa using HN.out m hml
      have hidx := run_row Try.underlying22 size55 ha len cap m hml
      clear ha hc
      go_wp2
      go_round
      case rel => exact ⟨m, by omega, by go_num⟩
      case measure => simp [intOf]

theorem labelAt_yes (a : Option Addr) (len cap : Nat) (G : Nat → Nat → ByteArray) (x : ByteArray) (w : World) (hm : len ≤ maxLen) (hr : Rws w a len 2 G) (i : Nat)
    (hyes : lastIdx (nmOf G) len x.toList = some i) :
    Calls Try.prog 10 #[.slice a len cap, .string x] w fun e w' => e = .returned (.tuple #[.string (G i 1), .bool true]) ∧ w = w' := by
  have hm' := hm
  unfold maxLen at hm'
  have HN : Hid (∀ j, i < j → j < len → (G j 0).toList ≠ x.toList) := fun j h1 h2 => lastIdx_above hyes h1 h2
  have HI : Hid ((G i 0).toList = x.toList) := (lastIdx_some hyes).2
  have hil := (lastIdx_some hyes).1
  clear hyes
  go_enter Try.func10, Try.ntmps10
  go_wp2
  go_loop [6] (fun y => ∃ k : Nat, i < k ∧ k ≤ len ∧ y = .int .i64 ((k : Int) - 1)) (fun y => (intOf y + 1).toNat)
  case atStart => exact ⟨len, hil, Nat.le_refl _, rfl⟩
  case round =>
    obtain ⟨k, hik, hk, rfl⟩ := hrel
    cases k with
    | zero => omega
    | succ m =>
      have em : (((m + 1 : Nat) : Int) - 1) = (m : Int) := by omega
      rw [em]
      clear em
      have hml : m < len := by omega
      obtain ⟨b, off, ha, hb, hc⟩ := hr.cells hml
      have hc0 := hc 0 (by omega)
      simp only [Nat.add_zero] at hc0
      have hidx := run_row Try.underlying22 size55 ha len cap m hml
      have hc1 := hc 1 (by omega)
      clear ha hc
      by_cases hmi : m = i
      · subst hmi
        have heq : ((G m 0).toList == x.toList) = true := by simpa using HI.out
        go_wp2
        go_ret2
        exact ⟨rfl, rfl⟩
      · have hne : ((G m 0).toList == x.toList) = false := by simpa using HN.out m (by omega) hml
        go_wp2
        go_round
        case rel => exact ⟨m, by omega, by omega, by go_num⟩
        case measure => simp [intOf]

theorem bundleAt_no (a : Option Addr) (len cap : Nat) (G : Nat → Nat → ByteArray) (x : ByteArray) (w : World) (hm : len ≤ maxLen) (hr : Rws w a len 9 G)
    (hno : lastIdx (nmOf G) len x.toList = none) :
    Calls Try.prog 23 #[.slice a len cap, .string x] w fun e w' => e = .returned (.int .i64 (-1)) ∧ w = w' := by
  have hm' := hm
  unfold maxLen at hm'
  have HN : Hid (∀ i, i < len → (G i 0).toList ≠ x.toList) := lastIdx_none.1 hno
  clear hno
  go_enter Try.func23, Try.ntmps23
  go_wp2
  go_loop [5] (fun i => ∃ k : Nat, k ≤ len ∧ i = .int .i64 ((k : Int) - 1)) (fun i => (intOf i + 1).toNat)
  case atStart => exact ⟨len, Nat.le_refl _, rfl⟩
  case round =>
    obtain ⟨k, hk, rfl⟩ := hrel
    cases k with
    | zero =>
      go_wp2
      go_ret
      exact ⟨rfl, rfl⟩
    | succ m =>
      have em : (((m + 1 : Nat) : Int) - 1) = (m : Int) := by omega
      rw [em]
      clear em
      have hml : m < len := by omega
      obtain ⟨b, off, ha, hb, hc⟩ := hr.cells hml
      have hc0 := hc 0 (by omega)
      simp only [Nat.add_zero] at hc0
      have hne : ((G m 0).toList == x.toList) = false := by simpa using HN.out m hml
      have hidx := run_row Try.underlying23 size57 ha len cap m hml
      clear ha hc
      go_wp2
      go_round
      case rel => exact ⟨m, by omega, by go_num⟩
      case measure => simp [intOf]

theorem bundleAt_yes (a : Option Addr) (len cap : Nat) (G : Nat → Nat → ByteArray) (x : ByteArray) (w : World) (hm : len ≤ maxLen) (hr : Rws w a len 9 G) (i : Nat)
    (hyes : lastIdx (nmOf G) len x.toList = some i) :
    Calls Try.prog 23 #[.slice a len cap, .string x] w fun e w' => e = .returned (.int .i64 (i : Nat)) ∧ w = w' := by
  have hm' := hm
  unfold maxLen at hm'
  have HN : Hid (∀ j, i < j → j < len → (G j 0).toList ≠ x.toList) := fun j h1 h2 => lastIdx_above hyes h1 h2
  have HI : Hid ((G i 0).toList = x.toList) := (lastIdx_some hyes).2
  have hil := (lastIdx_some hyes).1
  clear hyes
  go_enter Try.func23, Try.ntmps23
  go_wp2
  go_loop [5] (fun y => ∃ k : Nat, i < k ∧ k ≤ len ∧ y = .int .i64 ((k : Int) - 1)) (fun y => (intOf y + 1).toNat)
  case atStart => exact ⟨len, hil, Nat.le_refl _, rfl⟩
  case round =>
    obtain ⟨k, hik, hk, rfl⟩ := hrel
    cases k with
    | zero => omega
    | succ m =>
      have em : (((m + 1 : Nat) : Int) - 1) = (m : Int) := by omega
      rw [em]
      clear em
      have hml : m < len := by omega
      obtain ⟨b, off, ha, hb, hc⟩ := hr.cells hml
      have hc0 := hc 0 (by omega)
      simp only [Nat.add_zero] at hc0
      have hidx := run_row Try.underlying23 size57 ha len cap m hml
      clear ha hc
      by_cases hmi : m = i
      · subst hmi
        have heq : ((G m 0).toList == x.toList) = true := by simpa using HI.out
        go_wp2
        go_ret
        exact ⟨rfl, rfl⟩
      · have hne : ((G m 0).toList == x.toList) = false := by simpa using HN.out m (by omega) hml
        go_wp2
        go_round
        case rel => exact ⟨m, by omega, by omega, by go_num⟩
        case measure => simp [intOf]

theorem knownAt_no (a : Option Addr) (len cap : Nat) (G : Nat → Nat → ByteArray) (x : ByteArray) (w : World) (hm : len ≤ maxLen) (hr : Rws w a len 3 G)
    (hno : lastIdx (nmOf G) len x.toList = none) :
    Calls Try.prog 24 #[.slice a len cap, .string x] w fun e w' => e = .returned (.int .i64 (-1)) ∧ w = w' := by
  have hm' := hm
  unfold maxLen at hm'
  have HN : Hid (∀ i, i < len → (G i 0).toList ≠ x.toList) := lastIdx_none.1 hno
  clear hno
  go_enter Try.func24, Try.ntmps24
  go_wp2
  go_loop [5] (fun i => ∃ k : Nat, k ≤ len ∧ i = .int .i64 ((k : Int) - 1)) (fun i => (intOf i + 1).toNat)
  case atStart => exact ⟨len, Nat.le_refl _, rfl⟩
  case round =>
    obtain ⟨k, hk, rfl⟩ := hrel
    cases k with
    | zero =>
      go_wp2
      go_ret
      exact ⟨rfl, rfl⟩
    | succ m =>
      have em : (((m + 1 : Nat) : Int) - 1) = (m : Int) := by omega
      rw [em]
      clear em
      have hml : m < len := by omega
      obtain ⟨b, off, ha, hb, hc⟩ := hr.cells hml
      have hc0 := hc 0 (by omega)
      simp only [Nat.add_zero] at hc0
      have hne : ((G m 0).toList == x.toList) = false := by simpa using HN.out m hml
      have hidx := run_row Try.underlying26 size63 ha len cap m hml
      clear ha hc
      go_wp2
      go_round
      case rel => exact ⟨m, by omega, by go_num⟩
      case measure => simp [intOf]

theorem knownAt_yes (a : Option Addr) (len cap : Nat) (G : Nat → Nat → ByteArray) (x : ByteArray) (w : World) (hm : len ≤ maxLen) (hr : Rws w a len 3 G) (i : Nat)
    (hyes : lastIdx (nmOf G) len x.toList = some i) :
    Calls Try.prog 24 #[.slice a len cap, .string x] w fun e w' => e = .returned (.int .i64 (i : Nat)) ∧ w = w' := by
  have hm' := hm
  unfold maxLen at hm'
  have HN : Hid (∀ j, i < j → j < len → (G j 0).toList ≠ x.toList) := fun j h1 h2 => lastIdx_above hyes h1 h2
  have HI : Hid ((G i 0).toList = x.toList) := (lastIdx_some hyes).2
  have hil := (lastIdx_some hyes).1
  clear hyes
  go_enter Try.func24, Try.ntmps24
  go_wp2
  go_loop [5] (fun y => ∃ k : Nat, i < k ∧ k ≤ len ∧ y = .int .i64 ((k : Int) - 1)) (fun y => (intOf y + 1).toNat)
  case atStart => exact ⟨len, hil, Nat.le_refl _, rfl⟩
  case round =>
    obtain ⟨k, hik, hk, rfl⟩ := hrel
    cases k with
    | zero => omega
    | succ m =>
      have em : (((m + 1 : Nat) : Int) - 1) = (m : Int) := by omega
      rw [em]
      clear em
      have hml : m < len := by omega
      obtain ⟨b, off, ha, hb, hc⟩ := hr.cells hml
      have hc0 := hc 0 (by omega)
      simp only [Nat.add_zero] at hc0
      have hidx := run_row Try.underlying26 size63 ha len cap m hml
      clear ha hc
      by_cases hmi : m = i
      · subst hmi
        have heq : ((G m 0).toList == x.toList) = true := by simpa using HI.out
        go_wp2
        go_ret
        exact ⟨rfl, rfl⟩
      · have hne : ((G m 0).toList == x.toList) = false := by simpa using HN.out m (by omega) hml
        go_wp2
        go_round
        case rel => exact ⟨m, by omega, by omega, by go_num⟩
        case measure => simp [intOf]

end Go.Proofs.Qxb6608572a

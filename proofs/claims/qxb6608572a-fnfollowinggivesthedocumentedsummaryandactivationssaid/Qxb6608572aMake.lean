import Derived.Test.Qxb6608572aRange
import Derived.Deep.RegionHeld3
import Derived.BigRegion
namespace Go.Proofs.Qxb6608572a
open Go.ChangeShapes Go.WideShapes Go.ChangeAt Go.RowKit Go.WideMaps Go.Maps

/-- The known activations' map. -/
def knoM (G : Nat → Nat → ByteArray) (len : Nat) : Text → Option Avn := rowsMap (nmOf G) (fun i => ⟨G i 1, G i 2⟩) len

/-! ### zzSt1Known -/
theorem known9_nil (w : World) : Calls Try.prog 9 #[.slice none 0 0] w fun e w' => e = .returned (.map none) ∧ w = w' := by
  have q := fun (w : World) (a : Option Addr) (n c n' c' : Nat) => Lib.run_eql_slice_nil (P := Try.prog) w _ _ a n c n' c' Try.underlying26
  go_enter Try.func9, Try.ntmps9
  go_wp2
  go_ret
  exact ⟨rfl, rfl⟩

set_option maxRecDepth 100000 in
theorem known9_some (x : Addr) (len cap : Nat) (G : Nat → Nat → ByteArray) (w : World) (hm : len ≤ 4096) (hr : Rws w (some x) len 3 G) (hG : ∀ i c, (G i c).size ≤ maxLen) :
    Calls Try.prog 9 #[.slice (some x) len cap] w fun e w' => e = .returned (.map (some w.heap.size)) ∧ Mp rdA w' w.heap.size len (knoM G len) ∧ Below w.heap.size w w' := by
  have q := fun (w : World) (a : Option Addr) (n c n' c' : Nat) => Lib.run_eql_slice_nil (P := Try.prog) w _ _ a n c n' c' Try.underlying26
  have hmk := run_makeMap_hint Try.underlying41
  go_enter Try.func9, Try.ntmps9
  go_wp2
  clear q hmk
  go_loopw [4] (fun y wr => ∃ k : Nat, k ≤ len ∧ y = .int .i64 (k : Int) ∧ Mp rdA wr w.heap.size k (knoM G k) ∧ Below w.heap.size w wr) (fun y _ => len - (intOf y).toNat)
  case atStart => exact ⟨0, Nat.zero_le _, rfl, (mp_made rdA w).congr (fun _ => rfl), (Below.refl _ _).alloc (Nat.le_refl _) _⟩
  case round =>
    obtain ⟨k, hk, rfl, hout, hbel⟩ := hrel
    by_cases hlt : k < len
    · obtain ⟨b, off, ha, hb, hc⟩ := (hr.below hbel).cells hlt
      have hc0 := hc 0 (by omega)
      simp only [Nat.add_zero] at hc0
      have hc1 := hc 1 (by omega)
      have hc2 := hc 2 (by omega)
      have hidx := run_row Try.underlying26 size63 ha len cap k hlt
      clear ha hc
      obtain ⟨w2, hrun, hout2, hg2⟩ := hout.drew.store (r := rdA) Try.underlying41 (by unfold maxLen; omega) (G k 0) (hG k 0) ⟨G k 1, G k 2⟩
      have hrun' : (Instr.mapUpdate 41 (.map (some w.heap.size)) (.string (G k 0)) (.agg #[.string (G k 1), .string (G k 2)])).run Try.prog wr.drew = .ok () w2 := hrun
      clear hrun
      go_wp2
      go_region
      go_wp2
      go_roundw
      case rel => exact ⟨k + 1, by omega, by go_num, hout2.congr (fun x => congrFun (rowsMap_succ (nmOf G) (fun i => (⟨G i 1, G i 2⟩ : Avn)) k) x), hbel.drew.grown hg2 hbel.size (fun j hj => by cases hj; exact Nat.le_refl _)⟩
      case measure => simp [intOf]; omega
    · obtain rfl : len = k := by omega
      go_wp2
      go_ret
      exact ⟨rfl, hout, hbel⟩

theorem known9 (a : Option Addr) (len cap : Nat) (G : Nat → Nat → ByteArray) (w : World) (hm : len ≤ 4096) (hr : Rws w a len 3 G) (hG : ∀ i c, (G i c).size ≤ maxLen) (hn : a = none → len = 0 ∧ cap = 0) :
    Calls Try.prog 9 #[.slice a len cap] w fun e w' => e = .returned (.map (a.map fun _ => w.heap.size)) ∧ MpO rdA w' (a.map fun _ => w.heap.size) len (knoM G len) ∧ Below w.heap.size w w' := by
  cases a with
  | none =>
    obtain ⟨rfl, rfl⟩ := hn rfl
    refine (known9_nil w).mono ?_
    rintro e w' ⟨rfl, rfl⟩
    exact ⟨rfl, Or.inl ⟨rfl, rfl⟩, Below.refl _ _⟩
  | some x =>
    refine (known9_some x len cap G w hm hr hG).mono ?_
    rintro e w' ⟨rfl, h1, h2⟩
    exact ⟨rfl, h1.toO, h2⟩

end Go.Proofs.Qxb6608572a

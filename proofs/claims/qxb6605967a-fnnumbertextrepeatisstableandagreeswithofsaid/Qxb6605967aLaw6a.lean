import Derived.Test.Qxb6605967aLaw5
namespace Go.Proofs.Qxb6605967a
open Go.ChangeShapes Go.WideShapes Go.ChangeAt Go.RowKit Go.WideMaps Go.Maps

/-! ### zzBytes of the second law -/
set_option maxRecDepth 100000 in
theorem bytes13_nil (a : Option Addr) (cap : Nat) (s : ByteArray) (w : World) :
    Calls Try.prog 13 #[.slice a 0 cap, .string s] w fun e w' => RetB e ∧ w = w' := by
  go_enter Try.func13, Try.ntmps13
  go_wp2
  refine wp_loop_rounds 1 ?_
  rw [rounds_succ]
  go_wp2
  all_goals (go_ret; exact ⟨⟨_, rfl⟩, rfl⟩)

set_option maxRecDepth 100000 in
theorem bytes13_some (b off len cap : Nat) (S : Nat → ByteArray) (s : ByteArray) (w : World) (hm : len ≤ maxLen)
    (hc : ∀ j, j < len → w.cell? ⟨b, off + j, none⟩ = some (.string (S j))) :
    Calls Try.prog 13 #[.slice (some ⟨b, off, none⟩) len cap, .string s] w fun e w' => RetB e ∧ w = w' := by
  unfold maxLen at hm
  by_cases hbig : 1048576 < (len : Int)
  · go_enter Try.func13, Try.ntmps13
    go_wp2
    go_ret
    exact ⟨⟨_, rfl⟩, rfl⟩
  go_enter Try.func13, Try.ntmps13
  go_wp2
  go_loop [5, 6] (fun z i => ∃ (k : Nat) (t : Int), k ≤ len ∧ i = .int .i64 k ∧ z = .int .i64 t) (fun _ i => len - (intOf i).toNat)
  case atStart => exact ⟨0, _, Nat.zero_le _, rfl, rfl⟩
  case round =>
    obtain ⟨k, t, hk, rfl, rfl⟩ := hrel
    by_cases hlt : k < len
    · have hcx := hc k hlt
      go_wp2
      · go_ret
        exact ⟨⟨_, rfl⟩, rfl⟩
      · go_ret
        exact ⟨⟨_, rfl⟩, rfl⟩
      · go_round
        case rel => exact ⟨k + 1, _, by omega, by go_num, rfl⟩
        case measure => simp [intOf]; omega
    · go_wp2
      all_goals (go_ret; exact ⟨⟨_, rfl⟩, rfl⟩)

/-! ### plain facts -/
theorem idx_lt_of_mem {L : List Text} {x : Text} (h : L.contains x = true) : L.idxOf x < L.length :=
  List.idxOf_lt_length_iff.2 (by simpa using h)

theorem idx_inj {L : List Text} {x y : Text} (hx : L.contains x = true) (h : L.idxOf x = L.idxOf y) : x = y := by
  have h1 := idx_lt_of_mem hx
  have e1 : L[L.idxOf x]'h1 = x := List.getElem_idxOf h1
  have h2 : L.idxOf y < L.length := h ▸ h1
  have e2 : L[L.idxOf y]'h2 = y := List.getElem_idxOf h2
  rw [← e1, ← e2]
  simp only [h]

theorem seen_has (T : Nat → Text) {j k : Nat} (h : j < k) : (seen T k).contains (T j) = true := by
  have : T j ∈ seen T k := (mem_seen T _ k).2 ⟨j, h, rfl⟩
  simpa using this

/-- Two texts have one number just if they are one. -/
theorem idx_same (T : Nat → Text) {i j k : Nat} (hi : i < k) :
    (((seen T k).idxOf (T i) : Nat) == ((seen T k).idxOf (T j) : Nat)) = (T i == T j) := by
  by_cases h : T i = T j
  · rw [h]; simp
  · have : (seen T k).idxOf (T i) ≠ (seen T k).idxOf (T j) := fun e => h (idx_inj (seen_has T hi) e)
    rw [beq_eq_false_iff_ne.2 this, beq_eq_false_iff_ne.2 h]

theorem idx_same_int (T : Nat → Text) {i j k : Nat} (hi : i < k) :
    (((seen T k).idxOf (T i) : Nat) == (((seen T k).idxOf (T j) : Nat) : Int)) = (T i == T j) := by
  rw [← idx_same T hi]
  by_cases h : (seen T k).idxOf (T i) = (seen T k).idxOf (T j)
  · rw [h]; simp
  · rw [beq_eq_false_iff_ne.2 h]
    exact beq_eq_false_iff_ne.2 (fun e => h (by omega))

theorem seen_not (T : Nat → Text) (k : Nat) {x : Text} (h : ∀ j, j < k → T j ≠ x) : (seen T k).contains x = false := by
  have : x ∉ seen T k := fun hm => by
    obtain ⟨j, hj, e⟩ := (mem_seen T _ k).1 hm
    exact h j hj e
  simpa using this

end Go.Proofs.Qxb6605967a

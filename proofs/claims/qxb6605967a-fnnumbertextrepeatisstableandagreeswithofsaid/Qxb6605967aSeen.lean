import Derived.Test.Qxb6605967aNumb
namespace Go.Proofs.Qxb6605967a
open Go.RowKit

/-- The distinct texts among the first k, in the order in which they first come. -/
def seen (T : Nat → Text) : Nat → List Text
  | 0 => []
  | k + 1 => add (seen T k) (T k)

theorem mem_add (L : List Text) (x y : Text) : y ∈ add L x ↔ y ∈ L ∨ y = x := by
  unfold add
  by_cases h : L.contains x = true
  · rw [if_pos h]
    have hx : x ∈ L := by simpa using h
    constructor
    · exact Or.inl
    · rintro (h | rfl)
      · exact h
      · exact hx
  · rw [if_neg h]; simp

theorem mem_seen (T : Nat → Text) (x : Text) : ∀ k, x ∈ seen T k ↔ ∃ j, j < k ∧ T j = x
  | 0 => by simp [seen]
  | k + 1 => by
    rw [seen, mem_add, mem_seen T x k]
    constructor
    · rintro (⟨j, hj, e⟩ | rfl)
      · exact ⟨j, by omega, e⟩
      · exact ⟨k, by omega, rfl⟩
    · rintro ⟨j, hj, e⟩
      by_cases h : j = k
      · subst h; exact Or.inr e.symm
      · exact Or.inl ⟨j, by omega, e⟩

theorem idx_add {L : List Text} {x y : Text} (h : y ∈ L) : (add L x).idxOf y = L.idxOf y := by
  unfold add
  split
  · rfl
  · rw [List.idxOf_append, if_pos h]

theorem idx_step (T : Nat → Text) {j k : Nat} (h : j < k) : (seen T (k + 1)).idxOf (T j) = (seen T k).idxOf (T j) :=
  idx_add ((mem_seen T _ k).2 ⟨j, h, rfl⟩)

/-- The text read last has the number that the map gave: its old one, or the next. -/
theorem idx_last (T : Nat → Text) (k : Nat) : (seen T (k + 1)).idxOf (T k) = (seen T k).idxOf (T k) := by
  by_cases h : T k ∈ seen T k
  · exact idx_add h
  · have hc : (seen T k).contains (T k) = false := by simpa using h
    rw [seen, add_new hc, List.idxOf_append, if_neg h, List.idxOf_eq_length h]
    simp

theorem len_seen (T : Nat → Text) : ∀ k, (seen T k).length ≤ k
  | 0 => Nat.le_refl _
  | k + 1 => by
    have := len_seen T k
    rw [seen, add]
    split
    · omega
    · simp; omega

theorem seen_old (T : Nat → Text) (k : Nat) (h : (seen T k).contains (T k) = true) : seen T (k + 1) = seen T k := by rw [seen, add_old h]
theorem seen_new (T : Nat → Text) (k : Nat) (h : (seen T k).contains (T k) = false) : seen T (k + 1) = seen T k ++ [T k] := by rw [seen, add_new h]

theorem idx_new (T : Nat → Text) (k : Nat) (h : (seen T k).contains (T k) = false) : (seen T k).idxOf (T k) = (seen T k).length :=
  List.idxOf_eq_length (by simpa using h)

/-- No text before k is the k-th: it is new. -/
theorem seen_none (T : Nat → Text) (k : Nat) (h : ∀ j, j < k → T j ≠ T k) : (seen T k).contains (T k) = false := by
  have : T k ∉ seen T k := fun hm => by
    obtain ⟨j, hj, e⟩ := (mem_seen T _ k).1 hm
    exact h j hj e
  simpa using this

theorem seen_some (T : Nat → Text) {j k : Nat} (hj : j < k) (h : T j = T k) : (seen T k).contains (T k) = true := by
  have : T k ∈ seen T k := (mem_seen T _ k).2 ⟨j, hj, h⟩
  simpa using this

theorem bytes9' (a : Option Addr) (len cap : Nat) (S : Nat → ByteArray) (w : World) (hm : len ≤ maxLen) (hs : Strs w a len S) :
    Calls Try.prog 9 #[.slice a len cap] w fun e w' => RetB e ∧ w = w' :=
  (bytes9 a len cap S w hm hs).mono fun _ _ h => ⟨h.1, h.2.symm⟩

end Go.Proofs.Qxb6605967a

import Derived.Test.Qxb6608572aMap
namespace Go.Proofs.Qxb6608572a
open Go.ChangeShapes Go.WideShapes Go.ChangeAt Go.RowKit Go.WideMaps Go.Maps
open Go.WideElems (Fit rd rg pl rd_key rd_val rg_of)

/-! ### the three kinds of elements -/
structure Avn where
  rev : ByteArray
  first : ByteArray

structure Bun where
  rev : ByteArray
  typ : ByteArray
  first : ByteArray
  last : ByteArray
  code : ByteArray
  msg : ByteArray
  http : ByteArray
  commit : ByteArray

def rdS : Rd ByteArray where
  val s := .string s
  R := fun | .string s => some (.held s, []) | _ => none
  ok _ := rfl
  inv u y h := by
    cases u <;> simp at h
    exact ⟨_, rfl, h.symm⟩

def readA : List Value → Option (DataW Avn × List MemPlace)
  | [.string a, .string b] => some (.held ⟨a, b⟩, [])
  | _ => none

theorem readA_inv (l : List Value) (y : DataW Avn × List MemPlace) (h : readA l = some y) : ∃ v : Avn, l = [.string v.rev, .string v.first] ∧ y = (.held v, []) := by
  unfold readA at h
  split at h
  · exact ⟨⟨_, _⟩, rfl, (Option.some.inj h).symm⟩
  · cases h

def rdA : Rd Avn where
  val a := .agg #[.string a.rev, .string a.first]
  R := fun | .agg cs => readA cs.toList | _ => none
  ok _ := rfl
  inv u y h := by
    cases u <;> simp at h
    obtain ⟨v, h1, h2⟩ := readA_inv _ _ h
    refine ⟨v, ?_, h2⟩
    congr 1
    exact Array.ext' h1

def readB : List Value → Option (DataW Bun × List MemPlace)
  | [.string a, .string b, .string c, .string d, .string e, .string f, .string g, .string i] => some (.held ⟨a, b, c, d, e, f, g, i⟩, [])
  | _ => none

theorem readB_inv (l : List Value) (y : DataW Bun × List MemPlace) (h : readB l = some y) :
    ∃ v : Bun, l = [.string v.rev, .string v.typ, .string v.first, .string v.last, .string v.code, .string v.msg, .string v.http, .string v.commit] ∧ y = (.held v, []) := by
  unfold readB at h
  split at h
  · exact ⟨⟨_, _, _, _, _, _, _, _⟩, rfl, (Option.some.inj h).symm⟩
  · cases h

def rdB : Rd Bun where
  val v := .agg #[.string v.rev, .string v.typ, .string v.first, .string v.last, .string v.code, .string v.msg, .string v.http, .string v.commit]
  R := fun | .agg cs => readB cs.toList | _ => none
  ok _ := rfl
  inv u y h := by
    cases u <;> simp at h
    obtain ⟨v, h1, h2⟩ := readB_inv _ _ h
    refine ⟨v, ?_, h2⟩
    congr 1
    exact Array.ext' h1

def zA : Avn := ⟨ByteArray.empty, ByteArray.empty⟩
def zB : Bun := ⟨ByteArray.empty, ByteArray.empty, ByteArray.empty, ByteArray.empty, ByteArray.empty, ByteArray.empty, ByteArray.empty, ByteArray.empty⟩

theorem zero9 (w : World) : (zeroValue 9).run Try.prog w = .ok (rdS.val ByteArray.empty) w := by kernel_rfl
theorem zero76 (w : World) : (zeroValue 76).run Try.prog w = .ok (rdA.val zA) w := by kernel_rfl
theorem zero68 (w : World) : (zeroValue 68).run Try.prog w = .ok (rdB.val zB) w := by kernel_rfl

/-! ### how many entries -/
theorem nodup_le : ∀ {l₁ l₂ : List Text}, l₁.Nodup → (∀ x ∈ l₁, x ∈ l₂) → l₁.length ≤ l₂.length
  | [], _, _, _ => by simp
  | a :: l, l₂, hn, h => by
    obtain ⟨h1, h2⟩ := List.nodup_cons.1 hn
    have ha : a ∈ l₂ := h a (by simp)
    have := nodup_le (l₁ := l) (l₂ := l₂.erase a) h2 (fun x hx => by
      have hne : x ≠ a := fun e => h1 (e ▸ hx)
      exact (List.mem_erase_of_ne hne).2 (h x (by simp [hx])))
    rw [List.length_erase_of_mem ha] at this
    have hp : 0 < l₂.length := List.length_pos_of_mem ha
    simp
    omega

def txt : Lit → Text
  | .string s => s
  | _ => []

theorem owns_keys {V : Type} {r : Rd V} {w : World} {b n : Nat} {D : DataW V} (h : w.ownsMap Try.prog 9 r.R b n D) :
    ∃ kt : List Text, kt.Nodup ∧ Maps.size D = kt.length ∧ ∀ x, x ∈ kt ↔ Maps.has D (.string x) = true := by
  have hst : ∃ es, D = .map es ∧ es.Pairwise (fun p q => p.1 ≠ q.1) ∧ ∀ p ∈ es, ∃ s, p.1 = Lit.string s := by
    obtain ⟨es, clock, _, F, _, rfl⟩ := h
    refine ⟨_, rfl, ((sorted_perm _).pairwise_iff (fun {_ _} hne => Ne.symm hne)).2 (Maps.fit_apart law F), fun p hp => ?_⟩
    obtain ⟨x, hx, rfl⟩ := List.mem_map.1 (mem_sorted.1 hp)
    obtain ⟨y, hy⟩ := F.reads x hx
    rw [rg_of hy]
    obtain ⟨s, _, hs, _⟩ := key_inv (rd_key hy)
    exact ⟨_, hs⟩
  obtain ⟨es, rfl, hp, hk⟩ := hst
  refine ⟨es.map (fun p => txt p.1), ?_, by simp [Maps.size], fun x => ?_⟩
  · rw [List.nodup_iff_pairwise_ne, List.pairwise_map]
    refine hp.imp_of_mem (fun {p q} hpm hqm hne e => hne ?_)
    obtain ⟨s, hs⟩ := hk p hpm
    obtain ⟨t, ht⟩ := hk q hqm
    rw [hs, ht] at e ⊢
    simp [txt] at e
    rw [e]
  · constructor
    · intro hx
      obtain ⟨p, hpm, rfl⟩ := List.mem_map.1 hx
      obtain ⟨s, hs⟩ := hk p hpm
      refine List.any_eq_true.2 ⟨p, hpm, ?_⟩
      rw [hs]
      simp [txt, Lit.sameKey]
    · intro hx
      obtain ⟨p, hpm, hpx⟩ := List.any_eq_true.1 hx
      refine List.mem_map.2 ⟨p, hpm, ?_⟩
      rw [WideAt.sameKey_eq hpx]
      rfl

/-- The keys of M, each once. -/
structure Keys {V : Type} (M : Text → Option V) (L : List Text) : Prop where
  nodup : L.Nodup
  mem : ∀ x, x ∈ L ↔ (M x).isSome = true

theorem size_of_keys {V : Type} {r : Rd V} {w : World} {b n : Nat} {D : DataW V} {M : Text → Option V} {L : List Text} (h : w.ownsMap Try.prog 9 r.R b n D) (hD : Holds D M) (hL : Keys M L) : Maps.size D = L.length := by
  obtain ⟨kt, h1, h2, h3⟩ := owns_keys h
  rw [h2]
  have e : ∀ x, x ∈ kt ↔ x ∈ L := fun x => by rw [h3 x, hD.has x, hL.mem x]
  exact Nat.le_antisymm (nodup_le h1 (fun x hx => (e x).1 hx)) (nodup_le hL.nodup (fun x hx => (e x).2 hx))

theorem MpO.len {V : Type} {r : Rd V} {w : World} {o : Option Nat} {n : Nat} {M : Text → Option V} {L : List Text} {t e : TypeId} (h : MpO r w o n M) (ht : Try.prog.underlying t = some (.map 9 e)) (hL : Keys M L) (ty : TypeId) :
    (Builtin.len_ #[t] ty #[.map o]).run Try.prog w = .ok (.int .i64 (L.length : Nat)) w := by
  rcases h with ⟨rfl, rfl⟩ | ⟨b, rfl, D, hown, hD⟩
  · have : L = [] := by
      cases L with
      | nil => rfl
      | cons a l => have := (hL.mem a).1 (by simp); simp at this
    subst this
    exact Maps.len_nil ht ty
  · rw [hown.len ht ty, size_of_keys hown hD hL]

/-- Every map has a list of its keys, no longer than its bound. -/
theorem MpO.keys {V : Type} {r : Rd V} {w : World} {o : Option Nat} {n : Nat} {M : Text → Option V} (h : MpO r w o n M) : ∃ L, Keys M L ∧ L.length ≤ n := by
  rcases h with ⟨_, rfl⟩ | ⟨b, rfl, D, hown, hD⟩
  · exact ⟨[], ⟨by simp, fun x => by simp⟩, Nat.zero_le _⟩
  · obtain ⟨kt, h1, h2, h3⟩ := owns_keys hown
    exact ⟨kt, ⟨h1, fun x => by rw [h3 x, hD.has x]⟩, by rw [← h2]; exact hown.size_le⟩

/-! ### rows with names: which is the last of a name -/
def lastIdx (nm : Nat → Text) : Nat → Text → Option Nat
  | 0, _ => none
  | k + 1, x => if nm k = x then some k else lastIdx nm k x

/-- What a map filled from the first k rows holds. -/
def rowsMap {V : Type} (nm : Nat → Text) (val : Nat → V) (k : Nat) (x : Text) : Option V := (lastIdx nm k x).map val

theorem rowsMap_succ {V : Type} (nm : Nat → Text) (val : Nat → V) (k : Nat) : upd (rowsMap nm val k) (nm k) (val k) = rowsMap nm val (k + 1) := by
  funext x
  unfold upd rowsMap
  rw [lastIdx]
  by_cases h : x = nm k
  · rw [if_pos h, if_pos h.symm]; rfl
  · rw [if_neg h, if_neg (fun e => h e.symm)]

theorem rowsMap_zero {V : Type} (nm : Nat → Text) (val : Nat → V) : rowsMap nm val 0 = fun _ => none := by
  funext x; rfl

theorem lastIdx_some {nm : Nat → Text} {k i : Nat} {x : Text} (h : lastIdx nm k x = some i) : i < k ∧ nm i = x := by
  induction k with
  | zero => simp [lastIdx] at h
  | succ k ih =>
    rw [lastIdx] at h
    split at h
    · rename_i e; cases h; exact ⟨by omega, e⟩
    · have := ih h; exact ⟨by omega, this.2⟩

theorem lastIdx_none {nm : Nat → Text} {k : Nat} {x : Text} : lastIdx nm k x = none ↔ ∀ i, i < k → nm i ≠ x := by
  induction k with
  | zero => simp [lastIdx]
  | succ k ih =>
    rw [lastIdx]
    split
    · rename_i e
      simp
      exact ⟨k, by omega, e⟩
    · rename_i e
      rw [ih]
      constructor
      · intro h i hi
        by_cases hik : i = k
        · subst hik; exact e
        · exact h i (by omega)
      · intro h i hi
        exact h i (by omega)

/-- Above the last of a name no row bears it. -/
theorem lastIdx_above {nm : Nat → Text} {k i j : Nat} {x : Text} (h : lastIdx nm k x = some i) (hij : i < j) (hj : j < k) : nm j ≠ x := by
  induction k with
  | zero => omega
  | succ k ih =>
    rw [lastIdx] at h
    split at h
    · cases h; omega
    · rename_i e
      by_cases hjk : j = k
      · subst hjk; exact e
      · exact ih h (by omega)

theorem lastIdx_is {nm : Nat → Text} {k i : Nat} {x : Text} (hi : i < k) (hx : nm i = x) (h : ∀ j, i < j → j < k → nm j ≠ x) : lastIdx nm k x = some i := by
  cases e : lastIdx nm k x with
  | none => exact absurd hx (lastIdx_none.1 e i hi)
  | some j =>
    obtain ⟨h1, h2⟩ := lastIdx_some e
    by_cases h3 : i = j
    · rw [h3]
    · by_cases h4 : i < j
      · exact absurd h2 (h j h4 h1)
      · exact absurd hx (lastIdx_above e (by omega) hi)

/-- Is row i the last of its name? -/
def isLast (nm : Nat → Text) (N i : Nat) : Bool := lastIdx nm N (nm i) == some i

def lasts (nm : Nat → Text) (N k : Nat) : List Text := ((List.range k).filter (isLast nm N)).map nm

theorem lasts_succ (nm : Nat → Text) (N k : Nat) : lasts nm N (k + 1) = lasts nm N k ++ if isLast nm N k then [nm k] else [] := by
  unfold lasts
  rw [List.range_succ, List.filter_append, List.map_append]
  congr 1
  by_cases h : isLast nm N k = true <;> simp [h]

theorem lasts_len_yes {nm : Nat → Text} {N k : Nat} (h : isLast nm N k = true) : (lasts nm N (k + 1)).length = (lasts nm N k).length + 1 := by rw [lasts_succ, if_pos h]; simp
theorem lasts_len_no {nm : Nat → Text} {N k : Nat} (h : isLast nm N k = false) : (lasts nm N (k + 1)).length = (lasts nm N k).length := by rw [lasts_succ, h]; simp
theorem lasts_le (nm : Nat → Text) (N k : Nat) : (lasts nm N k).length ≤ k := by
  unfold lasts
  rw [List.length_map]
  have := List.length_filter_le (isLast nm N) (List.range k)
  simpa using this

theorem mem_lasts {nm : Nat → Text} {N : Nat} (x : Text) : x ∈ lasts nm N N ↔ (lastIdx nm N x).isSome = true := by
  unfold lasts
  constructor
  · intro h
    obtain ⟨i, hi, rfl⟩ := List.mem_map.1 h
    have := (List.mem_filter.1 hi).2
    unfold isLast at this
    rw [beq_iff_eq] at this
    rw [this]; rfl
  · intro h
    obtain ⟨i, hi⟩ := Option.isSome_iff_exists.1 h
    obtain ⟨h1, h2⟩ := lastIdx_some hi
    refine List.mem_map.2 ⟨i, List.mem_filter.2 ⟨List.mem_range.2 h1, ?_⟩, h2⟩
    unfold isLast
    rw [h2, hi]
    simp

theorem nodup_lasts (nm : Nat → Text) (N : Nat) : ∀ k, k ≤ N → (lasts nm N k).Nodup
  | 0, _ => by simp [lasts]
  | k + 1, hk => by
    have ih := nodup_lasts nm N k (by omega)
    rw [lasts_succ]
    by_cases h : isLast nm N k = true
    · rw [if_pos h, List.nodup_append]
      refine ⟨ih, by simp, fun a ha c hc e => ?_⟩
      simp at hc
      subst hc
      subst e
      obtain ⟨i, hi, hin⟩ := List.mem_map.1 ha
      obtain ⟨h1, h2⟩ := List.mem_filter.1 hi
      have h1' := List.mem_range.1 h1
      unfold isLast at h2
      rw [beq_iff_eq] at h2
      exact lastIdx_above h2 h1' (by omega) hin.symm
    · rw [if_neg h]; simpa using ih

theorem keys_rows {V : Type} (nm : Nat → Text) (val : Nat → V) (N : Nat) : Keys (rowsMap nm val N) (lasts nm N N) :=
  ⟨nodup_lasts nm N N (Nat.le_refl _), fun x => by rw [mem_lasts x]; unfold rowsMap; simp⟩

end Go.Proofs.Qxb6608572a

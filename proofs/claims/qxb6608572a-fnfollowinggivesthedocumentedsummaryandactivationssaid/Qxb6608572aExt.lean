import Derived.Test.Qxb6608572aRule
namespace Go.Proofs.Qxb6608572a
open Go.ChangeShapes Go.WideShapes Go.ChangeAt Go.RowKit Go.WideMaps Go.Maps

section
variable {BG KG : Nat → Nat → ByteArray} {bn kn i j : Nat} {x : Text}

theorem bun_none (h : lastIdx (nmOf BG) bn x = none) : bunM BG bn x = none := by simp [bunM, rowsMap, h]

/-- The activations at a name that is known. -/
theorem aft_no (hk : lastIdx (nmOf KG) kn x = some j) (h : lastIdx (nmOf BG) bn x = none) : aftM BG bn KG kn x = some ⟨KG j 1, KG j 2⟩ := by
  simp [aftM, thenM, shownM, bun_none h, kno_at hk]
theorem aft_empty (hk : lastIdx (nmOf KG) kn x = some j) (h : lastIdx (nmOf BG) bn x = some i) (he : (BG i 3).toList.isEmpty = true) : aftM BG bn KG kn x = some ⟨KG j 1, KG j 2⟩ := by
  have he' : (BG i 3).toList = [] := by simpa using he
  simp [aftM, thenM, shownM, bun_at h, kno_at hk, bunOf, he']
theorem aft_same (hk : lastIdx (nmOf KG) kn x = some j) (h : lastIdx (nmOf BG) bn x = some i) (he : (BG i 3).toList.isEmpty = false) (hr : ((BG i 1).toList == (KG j 1).toList) = true) : aftM BG bn KG kn x = some ⟨KG j 1, KG j 2⟩ := by
  have he' : ¬ (BG i 3).toList = [] := by simpa using he
  have hr' : (KG j 1).toList = (BG i 1).toList := (by simpa using hr : (BG i 1).toList = (KG j 1).toList).symm
  simp [aftM, thenM, shownM, bun_at h, kno_at hk, bunOf, he', hr']
theorem aft_other (hk : lastIdx (nmOf KG) kn x = some j) (h : lastIdx (nmOf BG) bn x = some i) (he : (BG i 3).toList.isEmpty = false) (hr : ((BG i 1).toList == (KG j 1).toList) = false) : aftM BG bn KG kn x = some ⟨BG i 1, BG i 3⟩ := by
  have he' : ¬ (BG i 3).toList = [] := by simpa using he
  have hr' : ¬ (KG j 1).toList = (BG i 1).toList := fun e => (by simpa using hr : ¬ (BG i 1).toList = (KG j 1).toList) e.symm
  simp [aftM, thenM, shownM, bun_at h, kno_at hk, bunOf, he', hr']
/-- .. and at one that is not. -/
theorem aft_new (hk : lastIdx (nmOf KG) kn x = none) (h : lastIdx (nmOf BG) bn x = some i) (he : (BG i 3).toList.isEmpty = false) : aftM BG bn KG kn x = some ⟨BG i 1, BG i 3⟩ := by
  have he' : ¬ (BG i 3).toList = [] := by simpa using he
  simp [aftM, thenM, shownM, bun_at h, kno_none hk, bunOf, he']
theorem aft_none (hk : lastIdx (nmOf KG) kn x = none) (h : lastIdx (nmOf BG) bn x = some i) (he : (BG i 3).toList.isEmpty = true) : aftM BG bn KG kn x = none := by
  have he' : (BG i 3).toList = [] := by simpa using he
  simp [aftM, thenM, shownM, bun_at h, kno_none hk, bunOf, he']
theorem aft_nowhere (hk : lastIdx (nmOf KG) kn x = none) (h : lastIdx (nmOf BG) bn x = none) : aftM BG bn KG kn x = none := by
  simp [aftM, thenM, shownM, bun_none h, kno_none hk]
end

/-- Does bundle i bring a name of its own among the activations? -/
def extB (BG : Nat → Nat → ByteArray) (bn : Nat) (KG : Nat → Nat → ByteArray) (kn : Nat) (i : Nat) : Bool :=
  isLast (nmOf BG) bn i && (!(BG i 3).toList.isEmpty && (lastIdx (nmOf KG) kn (nmOf BG i)).isNone)

def exts (BG : Nat → Nat → ByteArray) (bn : Nat) (KG : Nat → Nat → ByteArray) (kn k : Nat) : List Text := ((List.range k).filter (extB BG bn KG kn)).map (nmOf BG)

section
variable {BG KG : Nat → Nat → ByteArray} {bn kn k : Nat}

theorem exts_succ : exts BG bn KG kn (k + 1) = exts BG bn KG kn k ++ if extB BG bn KG kn k then [nmOf BG k] else [] := by
  unfold exts
  rw [List.range_succ, List.filter_append, List.map_append]
  congr 1
  by_cases h : extB BG bn KG kn k = true <;> simp [h]
theorem exts_len_yes (h : extB BG bn KG kn k = true) : (exts BG bn KG kn (k + 1)).length = (exts BG bn KG kn k).length + 1 := by rw [exts_succ, if_pos h]; simp
theorem exts_len_no (h : extB BG bn KG kn k = false) : (exts BG bn KG kn (k + 1)).length = (exts BG bn KG kn k).length := by rw [exts_succ, h]; simp
theorem exts_le (k : Nat) : (exts BG bn KG kn k).length ≤ k := by
  unfold exts
  rw [List.length_map]
  have := List.length_filter_le (extB BG bn KG kn) (List.range k)
  simpa using this

theorem mem_exts (x : Text) : x ∈ exts BG bn KG kn bn ↔ ∃ i, lastIdx (nmOf BG) bn x = some i ∧ (BG i 3).toList.isEmpty = false ∧ lastIdx (nmOf KG) kn x = none := by
  unfold exts
  constructor
  · intro h
    obtain ⟨i, hi, rfl⟩ := List.mem_map.1 h
    obtain ⟨_, he⟩ := List.mem_filter.1 hi
    simp only [extB, Bool.and_eq_true, Bool.not_eq_true', Option.isNone_iff_eq_none] at he
    exact ⟨i, isLast_iff.1 he.1, he.2.1, he.2.2⟩
  · rintro ⟨i, h1, h2, h3⟩
    obtain ⟨hlt, hx⟩ := lastIdx_some h1
    refine List.mem_map.2 ⟨i, List.mem_filter.2 ⟨List.mem_range.2 hlt, ?_⟩, hx⟩
    subst hx
    simp only [extB, Bool.and_eq_true, Bool.not_eq_true', Option.isNone_iff_eq_none]
    exact ⟨isLast_iff.2 h1, h2, h3⟩

theorem nodup_exts : (exts BG bn KG kn bn).Nodup := by
  have h := nodup_lasts (nmOf BG) bn bn (Nat.le_refl _)
  refine List.Nodup.sublist ?_ h
  unfold exts lasts
  refine List.Sublist.map _ ?_
  have e : (List.range bn).filter (extB BG bn KG kn) = ((List.range bn).filter (isLast (nmOf BG) bn)).filter (fun i => !(BG i 3).toList.isEmpty && (lastIdx (nmOf KG) kn (nmOf BG i)).isNone) := by
    rw [List.filter_filter]
    congr 1
    funext i
    unfold extB
    exact Bool.and_comm _ _
  rw [e]
  exact List.filter_sublist

theorem keys_aft : Keys (aftM BG bn KG kn) (lasts (nmOf KG) kn kn ++ exts BG bn KG kn bn) := by
  refine ⟨List.nodup_append.2 ⟨nodup_lasts _ _ _ (Nat.le_refl _), nodup_exts, fun a ha b hb e => ?_⟩, fun x => ?_⟩
  · subst e
    obtain ⟨i, _, _, h⟩ := (mem_exts a).1 hb
    have := (mem_lasts a).1 ha
    rw [h] at this
    cases this
  · rw [List.mem_append, mem_lasts, mem_exts]
    cases hk : lastIdx (nmOf KG) kn x with
    | some j =>
      cases h : lastIdx (nmOf BG) bn x with
      | none => simp [aft_no hk h]
      | some i =>
        cases he : (BG i 3).toList.isEmpty
        · cases hr : ((BG i 1).toList == (KG j 1).toList)
          · simp [aft_other hk h he hr]
          · simp [aft_same hk h he hr]
        · simp [aft_empty hk h he]
    | none =>
      cases h : lastIdx (nmOf BG) bn x with
      | none => simp [aft_nowhere hk h]
      | some i =>
        cases he : (BG i 3).toList.isEmpty
        · have he' : ¬ (BG i 3).toList = [] := by simpa using he
          simp [aft_new hk h he, he']
        · have he' : (BG i 3).toList = [] := by simpa using he
          simp [aft_none hk h he, he']
end

end Go.Proofs.Qxb6608572a

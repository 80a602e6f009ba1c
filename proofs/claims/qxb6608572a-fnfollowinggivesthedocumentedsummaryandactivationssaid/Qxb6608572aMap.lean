import Derived.Test.Qxb6608572aRows
import Derived.WalkKit
import Derived.ProofKit
import Derived.WalkSpells
import Derived.WalkLawsBesides
import Derived.Maps.RangeWalk
import Derived.Deep.OwnRows
namespace Go.Proofs.Qxb6608572a
open Go.ChangeShapes Go.WideShapes Go.ChangeAt Go.RowKit Go.WideMaps Go.Maps
open Go.WideElems (Fit rd rg pl rd_key rd_val rg_of)

abbrev Text := List UInt8

/-! ### maps keyed by strings, as plain functions -/

/-- How the elements of a map are read: each value is made of a plain V. -/
structure Rd (V : Type) where
  val : V → Value
  R : Value → Option (DataW V × List MemPlace)
  ok : ∀ v, R (val v) = some (.held v, [])
  inv : ∀ u y, R u = some y → ∃ v, u = val v ∧ y = (.held v, [])

/-- The datum D holds just what the plain function M says. -/
structure Holds {V : Type} (D : DataW V) (M : Text → Option V) : Prop where
  yes : ∀ x v, M x = some v → Maps.has D (.string x) = true ∧ ∀ z, D.atKey (.string x) z = .held v
  no : ∀ x, M x = none → Maps.has D (.string x) = false

theorem holds_nil {V : Type} : Holds (.map [] : DataW V) (fun _ => none) := ⟨fun _ _ h => by simp at h, fun _ _ => rfl⟩

theorem isKey_string (x : Text) : WideAt.IsKeyLit (.string x) := by simp [WideAt.IsKeyLit]

theorem Holds.has {V : Type} {D : DataW V} {M : Text → Option V} (h : Holds D M) (x : Text) : Maps.has D (.string x) = (M x).isSome := by
  cases hx : M x with
  | none => rw [h.no x hx]; rfl
  | some v => rw [(h.yes x v hx).1]; rfl

/-- One entry more. -/
def upd {V : Type} (M : Text → Option V) (x : Text) (v : V) : Text → Option V := fun y => if y = x then some v else M y

theorem holds_put {V : Type} {D : DataW V} {M : Text → Option V} (hD : IsMap D) (h : Holds D M) (x : Text) (v : V) : Holds (D.put (.string x) (.held v)) (upd M x v) := by
  refine ⟨fun y u hy => ?_, fun y hy => ?_⟩
  · by_cases e : y = x
    · subst e
      simp [upd] at hy
      subst hy
      exact ⟨has_put_same hD (isKey_string y) _, fun z => atKey_put_same hD (isKey_string y) _ z⟩
    · simp [upd, e] at hy
      exact ⟨by rw [has_put_other (by simp [e])]; exact (h.yes y u hy).1, fun z => by rw [atKey_put_other (by simp [e])]; exact (h.yes y u hy).2 z⟩
  · by_cases e : y = x
    · simp [upd, e] at hy
    · simp [upd, e] at hy
      rw [has_put_other (by simp [e])]
      exact h.no y hy

/-- Block b is a map of at most n entries that holds M. -/
def Mp {V : Type} (r : Rd V) (w : World) (b n : Nat) (M : Text → Option V) : Prop :=
  ∃ D : DataW V, w.ownsMap Try.prog 9 r.R b n D ∧ Holds D M

/-- A map value, nil or not, that holds M. -/
def MpO {V : Type} (r : Rd V) (w : World) (o : Option Nat) (n : Nat) (M : Text → Option V) : Prop :=
  (o = none ∧ M = fun _ => none) ∨ ∃ b, o = some b ∧ Mp r w b n M

theorem law : Keyed Try.prog 9 := string_keyed Try.underlying9

theorem key_ok (s : ByteArray) (hs : s.size ≤ maxLen) : keyOf Try.prog 9 (.string s) = some (.string s.toList) := by
  rw [keyOf_string_mk Try.underlying9 hs, ByteArray.toList_eq]

theorem key_inv {key : Value} {kl : Lit} (h : keyOf Try.prog 9 key = some kl) : ∃ s : ByteArray, key = .string s ∧ kl = .string s.toList ∧ s.size ≤ maxLen := by
  cases key <;> simp [keyOf, Try.underlying9, mapKey] at h
  rename_i s
  obtain ⟨h1, rfl⟩ := h
  exact ⟨s, rfl, by rw [ByteArray.toList_eq], h1⟩

section
variable {V : Type} {r : Rd V} {w w' : World} {b n : Nat} {M : Text → Option V}

theorem Mp.mono {n' : Nat} (h : Mp r w b n M) (hn : n ≤ n') : Mp r w b n' M := by obtain ⟨D, h1, h2⟩ := h; exact ⟨D, h1.mono hn, h2⟩
theorem Mp.kept {row : Option Nat} (h : Mp r w b n M) (hg : w.grownBy w' row) (hne : some b ≠ row) : Mp r w' b n M := by obtain ⟨D, h1, h2⟩ := h; exact ⟨D, h1.kept hg hne, h2⟩
theorem Mp.of_block (h : Mp r w b n M) (e : w'.heap[b]? = w.heap[b]?) : Mp r w' b n M := by
  obtain ⟨D, ⟨es, clock, hb, rest⟩, h2⟩ := h
  exact ⟨D, ⟨es, clock, e.trans hb, rest⟩, h2⟩
theorem Mp.lt (h : Mp r w b n M) : b < w.heap.size := by obtain ⟨D, h1, _⟩ := h; exact h1.lt
theorem Mp.alloc (h : Mp r w b n M) (o : Obj) : Mp r (w.alloc o) b n M := by obtain ⟨D, h1, h2⟩ := h; exact ⟨D, h1.alloc o, h2⟩
theorem Mp.drewN (h : Mp r w b n M) (q : Nat) : Mp r (w.drewN q) b n M := h
theorem Mp.drew (h : Mp r w b n M) : Mp r w.drew b n M := h
theorem Mp.congr {M' : Text → Option V} (h : Mp r w b n M) (e : ∀ x, M x = M' x) : Mp r w b n M' := by
  have : M = M' := funext e
  exact this ▸ h
theorem mp_made (r : Rd V) (w : World) : Mp r (w.alloc (.map #[] 0)) w.heap.size 0 (fun _ => none) := ⟨_, World.ownsMap_made _ _ _ _, holds_nil⟩

theorem MpO.mono {o : Option Nat} {n' : Nat} (h : MpO r w o n M) (hn : n ≤ n') : MpO r w o n' M := by
  rcases h with h | ⟨b, e, h⟩
  · exact Or.inl h
  · exact Or.inr ⟨b, e, h.mono hn⟩
theorem MpO.kept {o : Option Nat} {row : Option Nat} (h : MpO r w o n M) (hg : w.grownBy w' row) (hne : ∀ b, o = some b → some b ≠ row) : MpO r w' o n M := by
  rcases h with h | ⟨b, e, h⟩
  · exact Or.inl h
  · exact Or.inr ⟨b, e, h.kept hg (hne b e)⟩
theorem MpO.alloc {o : Option Nat} (h : MpO r w o n M) (x : Obj) : MpO r (w.alloc x) o n M := h.kept (World.grownBy_alloc w x none) (fun b _ => by simp)
theorem MpO.lt {o : Option Nat} (h : MpO r w o n M) : ∀ b, o = some b → b < w.heap.size := by
  intro b e
  rcases h with ⟨h, _⟩ | ⟨c, e', h⟩
  · rw [h] at e; cases e
  · rw [e] at e'; cases e'; exact h.lt
theorem MpO.of_blocks {o : Option Nat} (h : MpO r w o n M) (e : ∀ b, o = some b → w'.heap[b]? = w.heap[b]?) : MpO r w' o n M := by
  rcases h with h | ⟨b, e', h⟩
  · exact Or.inl h
  · exact Or.inr ⟨b, e', h.of_block (e b e')⟩
theorem Mp.toO (h : Mp r w b n M) : MpO r w (some b) n M := Or.inr ⟨b, rfl, h⟩
theorem MpO.toMp (h : MpO r w (some b) n M) : Mp r w b n M := by
  rcases h with ⟨h, _⟩ | ⟨c, e, h⟩
  · cases h
  · cases e; exact h

/-- 'v, ok := m[k]' where the key is there. -/
theorem MpO.look_yes {o : Option Nat} {t e : TypeId} (h : MpO r w o n M) (ht : Try.prog.underlying t = some (.map 9 e)) {z : V} (hz : (zeroValue e).run Try.prog w = .ok (r.val z) w) (s : ByteArray) (hs : s.size ≤ maxLen) {v : V} (hv : M s.toList = some v) :
    (Instr.lookup t (.map o) (.string s) true).run Try.prog w = .ok (.tuple #[r.val v, .bool true]) w := by
  rcases h with ⟨_, rfl⟩ | ⟨b, rfl, D, hown, hD⟩
  · simp at hv
  · obtain ⟨u, ps, hrun, hu⟩ := hown.look_ok law ht hz (r.ok z) (key_ok s hs)
    obtain ⟨h1, h2⟩ := hD.yes _ v hv
    rw [h1] at hrun
    rw [h2] at hu
    obtain ⟨v', rfl, hy⟩ := r.inv _ _ hu
    simp at hy
    rw [hy.1]
    exact hrun

/-- .. where it is not. -/
theorem MpO.look_no {o : Option Nat} {t e : TypeId} (h : MpO r w o n M) (ht : Try.prog.underlying t = some (.map 9 e)) {z : V} (hz : (zeroValue e).run Try.prog w = .ok (r.val z) w) (s : ByteArray) (hs : s.size ≤ maxLen) (hv : M s.toList = none) :
    (Instr.lookup t (.map o) (.string s) true).run Try.prog w = .ok (.tuple #[r.val z, .bool false]) w := by
  rcases h with ⟨rfl, _⟩ | ⟨b, rfl, D, hown, hD⟩
  · simpa using Maps.look_nil (P := Try.prog) true law ht hz (key_ok s hs)
  · obtain ⟨es, clock, hb, F, _, rfl⟩ := hown
    have hno := hD.no _ hv
    rcases Maps.fit_look true law ht hz hb F (key_ok s hs) with ⟨hrun, _, hat⟩ | ⟨e0, y, _, _, hrun, hRv, hat, _⟩
    · exact hrun
    · rw [Maps.has_true_of_atKey hat] at hno; cases hno

/-- 'm[k]' without 'ok'. -/
theorem MpO.look {o : Option Nat} {t e : TypeId} (h : MpO r w o n M) (ht : Try.prog.underlying t = some (.map 9 e)) {z : V} (hz : (zeroValue e).run Try.prog w = .ok (r.val z) w) (s : ByteArray) (hs : s.size ≤ maxLen) :
    (Instr.lookup t (.map o) (.string s) false).run Try.prog w = .ok (r.val ((M s.toList).getD z)) w := by
  rcases h with ⟨rfl, rfl⟩ | ⟨b, rfl, D, hown, hD⟩
  · simpa using Maps.look_nil (P := Try.prog) false law ht hz (key_ok s hs)
  · obtain ⟨es, clock, hb, F, _, rfl⟩ := hown
    cases hv : M s.toList with
    | none =>
      have hno := hD.no _ hv
      rcases Maps.fit_look false law ht hz hb F (key_ok s hs) with ⟨hrun, _, hat⟩ | ⟨e0, y, _, _, hrun, hRv, hat, _⟩
      · exact hrun
      · rw [Maps.has_true_of_atKey hat] at hno; cases hno
    | some v =>
      obtain ⟨h1, h2⟩ := hD.yes _ v hv
      rcases Maps.fit_look false law ht hz hb F (key_ok s hs) with ⟨hrun, _, hat⟩ | ⟨e0, y, _, _, hrun, hRv, hat, _⟩
      · rw [Maps.has_false_of_atKey hat] at h1; cases h1
      · obtain ⟨v', hv', hy⟩ := r.inv _ _ hRv
        have := (hat .nil).symm.trans (h2 .nil)
        rw [hy] at this
        simp at this
        subst this
        rw [hv'] at hrun
        exact hrun

/-- 'm[k] = v'. -/
theorem Mp.store {t e : TypeId} (h : Mp r w b n M) (ht : Try.prog.underlying t = some (.map 9 e)) (hn : n < maxLen) (s : ByteArray) (hs : s.size ≤ maxLen) (v : V) :
    ∃ w', (Instr.mapUpdate t (.map (some b)) (.string s) (r.val v)).run Try.prog w = .ok () w' ∧ Mp r w' b (n + 1) (upd M s.toList v) ∧ w.grownBy w' (some b) := by
  obtain ⟨D, hown, hD⟩ := h
  obtain ⟨w', hrun, h1, h2⟩ := hown.update law ht hn (key_ok s hs) (r.ok v)
  exact ⟨w', hrun, ⟨_, h1, holds_put hown.isMap hD _ _⟩, h2⟩

end

theorem run_makeMap_hint {t k e : TypeId} (ht : Try.prog.underlying t = some (.map k e)) (q : IntKind) (m : Int) (w : World) :
    (Instr.makeMap t (some (.int q m))).run Try.prog w = .ok (.map (some w.heap.size)) (w.alloc (.map #[] 0)) := by
  unfold Instr.makeMap
  simp only [Sem.run_bind, run_underlying ht, Result.andThen_ok]
  rfl

end Go.Proofs.Qxb6608572a

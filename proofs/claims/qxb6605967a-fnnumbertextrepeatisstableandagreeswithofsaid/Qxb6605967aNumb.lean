import Derived.Test.Qxb6605967aBytes
import Derived.Maps.OwnSet
namespace Go.Proofs.Qxb6605967a
open Go.ChangeShapes Go.WideShapes Go.ChangeAt Go.RowKit Go.WideMaps Go.Maps

abbrev Text := List UInt8

/-- The list of texts numbered so far, with one more read. -/
def add (L : List Text) (x : Text) : List Text := if L.contains x then L else L ++ [x]

theorem add_old {L : List Text} {x : Text} (h : L.contains x = true) : add L x = L := by simp only [add, h, if_true]
theorem add_new {L : List Text} {x : Text} (h : L.contains x = false) : add L x = L ++ [x] := by simp only [add, h, Bool.false_eq_true, if_false]

/-- The map of a Numbering that has read the distinct texts L, in this order. -/
structure IsNum (D : DataW Unit) (L : List Text) : Prop where
  has : ∀ x : Text, Maps.has D (.string x) = L.contains x
  at' : ∀ x : Text, L.contains x = true → D.atKey (.string x) (.lit (.int .i64 0)) = .lit (.int .i64 (L.idxOf x : Nat))
  size : Maps.size D = L.length

theorem isNum_nil : IsNum (.map []) [] := ⟨fun _ => rfl, fun x h => by simp at h, rfl⟩

theorem isKey_string (x : Text) : WideAt.IsKeyLit (.string x) := by simp [WideAt.IsKeyLit]

theorem isNum_put {D : DataW Unit} {L : List Text} {x : Text} (hT : Tidy D) (h : IsNum D L) (hx : L.contains x = false) :
    IsNum (D.put (.string x) (.lit (.int .i64 (L.length : Nat)))) (L ++ [x]) := by
  have hnx : x ∉ L := by simpa using hx
  refine ⟨fun y => ?_, fun y hy => ?_, ?_⟩
  · by_cases e : y = x
    · subst e
      rw [has_put_same hT.isMap (isKey_string y)]
      simp
    · rw [has_put_other (by simp [e]), h.has y]
      simp [e]
  · by_cases e : y = x
    · subst e
      rw [atKey_put_same hT.isMap (isKey_string y), List.idxOf_append, if_neg hnx]
      simp
    · have hm : y ∈ L := by simpa [e] using hy
      rw [atKey_put_other (by simp [e]), h.at' y (by simpa using hm), List.idxOf_append, if_pos hm]
  · rw [size_put hT, h.has x, hx, h.size]
    simp

/-- Block m of the world is the map of a Numbering that has read L. -/
def Num (w : World) (m n : Nat) (L : List Text) : Prop :=
  ∃ D : DataW Unit, w.ownsMap Try.prog 9 (plainElem Try.prog 3) m n D ∧ IsNum D L

theorem law : Keyed Try.prog 9 := string_keyed Try.underlying9
theorem zero3 (w : World) : (zeroValue 3).run Try.prog w = .ok (.int .i64 0) w := by kernel_rfl

theorem key_ok (s : ByteArray) (hs : s.size ≤ maxLen) : keyOf Try.prog 9 (.string s) = some (.string s.toList) := by
  rw [keyOf_string_mk Try.underlying9 hs, ByteArray.toList_eq]

theorem Num.mono {w : World} {m n n' : Nat} {L : List Text} (h : Num w m n L) (hn : n ≤ n') : Num w m n' L := by
  obtain ⟨D, h1, h2⟩ := h; exact ⟨D, h1.mono hn, h2⟩
theorem Num.kept {w w' : World} {m n : Nat} {L : List Text} {row : Option Nat} (h : Num w m n L) (hg : w.grownBy w' row) (hne : some m ≠ row) : Num w' m n L := by
  obtain ⟨D, h1, h2⟩ := h; exact ⟨D, h1.kept hg hne, h2⟩
theorem Num.lt {w : World} {m n : Nat} {L : List Text} (h : Num w m n L) : m < w.heap.size := by
  obtain ⟨D, h1, _⟩ := h; exact h1.lt

/-! ### NewNumbering -/
set_option maxRecDepth 100000 in
theorem new11 (w : World) :
    Calls Try.prog 11 #[] w fun e w' => e = .returned (.agg #[.map (some (w.heap.size + 1)), .map (some (w.heap.size + 2))]) ∧
      Num w' (w.heap.size + 1) 0 [] ∧ Below w.heap.size w w' := by
  have hmm := @run_makeMap Try.prog
  go_enter Try.func11, Try.ntmps11
  go_wp2
  refine bodyPost_ret (v := .agg #[.map (some (w.heap.size + 1)), .map (some (w.heap.size + 2))]) (by simp [results, Try.results11, go_sem]) rfl ⟨rfl, ?_, ?_⟩
  · have h := World.ownsMap_made (w.alloc (.cells #[.map (some (w.heap.size + 1)), .map (some (w.heap.size + 1 + 1))] 30)) Try.prog 9 (plainElem (H := Unit) Try.prog 3)
    have e : (w.alloc (.cells #[.map (some (w.heap.size + 1)), .map (some (w.heap.size + 1 + 1))] 30)).heap.size = w.heap.size + 1 := by simp
    rw [e] at h
    exact ⟨_, h.alloc _, isNum_nil⟩
  · exact (((Below.refl _ _).alloc (Nat.le_refl _) _).alloc (by simp) _).alloc (by simp; omega) _

/-! ### NumberText -/
set_option maxRecDepth 100000 in
theorem number12_old (m m2 n : Nat) (L : List Text) (s : ByteArray) (w : World) (hs : s.size ≤ maxLen) (hN : Num w m n L) (hx : L.contains s.toList = true) :
    Calls Try.prog 12 #[.agg #[.map (some m), .map (some m2)], .string s] w fun e w' => e = .returned (.tuple #[.int .i64 (L.idxOf s.toList : Nat), .bool false]) ∧
      Num w' m n L ∧ w.grownBy w' (some m) := by
  obtain ⟨D, hown, hD⟩ := hN
  have hkey := key_ok s hs
  have hhas : Maps.has D (.string s.toList) = true := by rw [hD.has, hx]
  have hat0 : Hid (D.atKey (.string s.toList) (.lit (.int .i64 0)) = .lit (.int .i64 (L.idxOf s.toList : Nat))) := hD.at' _ hx
  clear hx
  go_enter Try.func12, Try.ntmps12
  go_wp2_with (first
    | (at_lookup; refine wpList_lookup_own_ok_int _ rfl _ _ 27 rfl 9 3 .i64 law Try.underlying27 Try.underlying3 (zero3 _) m n D rfl (hown.alloc _) _ _ rfl hkey ?_; intro c hat hwc)
    | go_in)
  go_ret2
  have hc : c = (L.idxOf s.toList : Nat) := by rw [hat0.out] at hat; cases hat; rfl
  exact ⟨by rw [hc]; rfl, ⟨D, hown.alloc _, hD⟩, World.grownBy_alloc _ _ _⟩

set_option maxRecDepth 100000 in
theorem number12_new (m m2 n : Nat) (L : List Text) (s : ByteArray) (w : World) (hs : s.size ≤ maxLen) (hn : n < maxLen) (hL : L.length ≤ 9223372036854775807) (hN : Num w m n L) (hx : L.contains s.toList = false) :
    Calls Try.prog 12 #[.agg #[.map (some m), .map (some m2)], .string s] w fun e w' => e = .returned (.tuple #[.int .i64 (L.length : Nat), .bool true]) ∧
      Num w' m (n + 1) (L ++ [s.toList]) ∧ w.grownBy w' (some m) := by
  obtain ⟨D, hown, hD⟩ := hN
  have hkey := key_ok s hs
  have hT := hown.tidy law
  have hhas : Maps.has D (.string s.toList) = false := by rw [hD.has, hx]
  have hsz : Maps.size D = L.length := hD.size
  have hfin := isNum_put hT hD hx
  clear hx
  go_enter Try.func12, Try.ntmps12
  go_wp2_with (first
    | (at_lookup; refine wpList_lookup_own_ok_int _ rfl _ _ 27 rfl 9 3 .i64 law Try.underlying27 Try.underlying3 (zero3 _) m n D rfl (hown.alloc _) _ _ rfl hkey ?_; intro c hat hwc; clear hat hwc)
    | (at_len; refine wpList_len_own _ rfl _ 27 rfl 9 3 Try.underlying27 _ m n D rfl (hown.alloc _) ?_)
    | (at_mapUpdate; refine wpList_mapUpdate_own _ rfl _ _ _ 27 rfl 9 3 law Try.underlying27 _ m n _ rfl (hown.alloc _) hn _ _ _ rfl rfl hkey _ [] (plainElem_int Try.underlying3 (WalkArith.wf_i64 (by omega))) ?_; intro w1 hown1 hgrow1)
    | go_in)
  go_ret2
  exact ⟨rfl, ⟨_, hown1, hfin⟩, (World.grownBy_alloc _ _ _).trans hgrow1⟩

/-! ### Of -/
set_option maxRecDepth 100000 in
theorem of14_yes (m m2 n : Nat) (L : List Text) (s : ByteArray) (w : World) (hs : s.size ≤ maxLen) (hN : Num w m n L) (hx : L.contains s.toList = true) :
    Calls Try.prog 14 #[.agg #[.map (some m), .map (some m2)], .string s] w fun e w' => e = .returned (.tuple #[.int .i64 (L.idxOf s.toList : Nat), .bool true]) ∧
      Num w' m n L ∧ w.grownBy w' (some m) := by
  obtain ⟨D, hown, hD⟩ := hN
  have hkey := key_ok s hs
  have hhas : Maps.has D (.string s.toList) = true := by rw [hD.has, hx]
  have hat0 : Hid (D.atKey (.string s.toList) (.lit (.int .i64 0)) = .lit (.int .i64 (L.idxOf s.toList : Nat))) := hD.at' _ hx
  clear hx
  go_enter Try.func14, Try.ntmps14
  go_wp2_with (first
    | (at_lookup; refine wpList_lookup_own_ok_int _ rfl _ _ 27 rfl 9 3 .i64 law Try.underlying27 Try.underlying3 (zero3 _) m n D rfl (hown.alloc _) _ _ rfl hkey ?_; intro c hat hwc)
    | go_in)
  go_ret2
  have hc : c = (L.idxOf s.toList : Nat) := by rw [hat0.out] at hat; cases hat; rfl
  exact ⟨by rw [hc]; rfl, ⟨D, hown.alloc _, hD⟩, World.grownBy_alloc _ _ _⟩

/-- A bool behind some number: what 'Of' answers for a text that was not read. -/
def RetNo (e : Ending) : Prop := ∃ c : Int, e = .returned (.tuple #[.int .i64 c, .bool false])

set_option maxRecDepth 100000 in
theorem of14_no (m m2 n : Nat) (L : List Text) (s : ByteArray) (w : World) (hs : s.size ≤ maxLen) (hN : Num w m n L) (hx : L.contains s.toList = false) :
    Calls Try.prog 14 #[.agg #[.map (some m), .map (some m2)], .string s] w fun e w' => RetNo e ∧
      Num w' m n L ∧ w.grownBy w' (some m) := by
  obtain ⟨D, hown, hD⟩ := hN
  have hkey := key_ok s hs
  have hhas : Maps.has D (.string s.toList) = false := by rw [hD.has, hx]
  clear hx
  go_enter Try.func14, Try.ntmps14
  go_wp2_with (first
    | (at_lookup; refine wpList_lookup_own_ok_int _ rfl _ _ 27 rfl 9 3 .i64 law Try.underlying27 Try.underlying3 (zero3 _) m n D rfl (hown.alloc _) _ _ rfl hkey ?_; intro c hat hwc)
    | go_in)
  go_ret2
  exact ⟨⟨c, rfl⟩, ⟨D, hown.alloc _, hD⟩, World.grownBy_alloc _ _ _⟩

end Go.Proofs.Qxb6605967a

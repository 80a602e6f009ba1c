import Derived.Test.Qxb6608572aSum
import Derived.Deep.Slices
import Derived.Deep.Fields
import Derived.WalkKit
import Derived.ProofKit
import Derived.OpenShut
import Derived.ShutString
import Derived.ChangeOld
import Derived.Below
namespace Go.Proofs.Qxb6608572a
open Go.ChangeShapes Go.WideShapes Go.ChangeAt Go.RowKit

/-- Field i of the struct is a string at offset i. -/
def nineFields (fs : Array Field) : Bool := (List.range fs.size).all fun i => match fs[i]? with
  | some f => f.offset == i && f.type == 9
  | none => false
theorem str_of {fs : Array Field} (h : nineFields fs = true) {i : Nat} (hlt : i < fs.size) : ∃ f, fs[i]? = some f ∧ f.offset = i ∧ f.type = 9 := by
  have := List.all_eq_true.1 h i (List.mem_range.2 hlt)
  cases hf : fs[i]? with
  | none => simp [hf] at this
  | some f =>
    simp only [hf, Bool.and_eq_true, beq_iff_eq] at this
    exact ⟨f, rfl, this⟩

theorem cells9 : Try.prog.cellsOf 9 = 1 := by kernel_rfl

section
variable {H : Type} {enc : TypeId × Value → H} {w : World} {spare : Nat → Bool} {held : Bool}

/-- The cells of a struct of strings. -/
theorem open_strs9 {e : TypeId} {fs : Array Field} {fuel : Nat} {cs : List Value} {x : DataW H × List MemPlace} (he : Try.prog.underlying e = some (.struct fs)) (hs : nineFields fs = true) (hC : Try.prog.cellsOf e = fs.size)
    (h : DataW.trod enc Try.prog w 0 spare held fuel e cs = some x) : cs.length = fs.size ∧ ∀ c, c < fs.size → ∃ s : ByteArray, cs[c]? = some (.string s) ∧ s.size ≤ maxLen := by
  obtain ⟨xs, n, _, _, hl, hxl, hf⟩ := DataW.trod_struct he h
  rw [hC] at hl
  refine ⟨hl, fun c hc => ?_⟩
  obtain ⟨f, hfc, ho, ht⟩ := str_of hs hc
  have g := hf c f hfc
  rw [ho, ht, cells9, Deep.take1_drop cs c undef (by omega), List.getElem?_eq_getElem (by omega)] at g
  obtain ⟨s, h1, _, h2⟩ := DataW.trod_string Try.underlying9 g
  refine ⟨s, ?_, h2⟩
  have h3 : cs.getD c undef = .string s := by simpa using h1
  rw [List.getElem?_eq_getElem (show c < cs.length by omega)]
  rw [List.getD, List.getElem?_eq_getElem (show c < cs.length by omega)] at h3
  simpa using h3

theorem open_rows {t e : TypeId} {fs : Array Field} {a : Option Addr} {len cap : Nat} {d : DataW H} {p : List MemPlace} (ht : Try.prog.underlying t = some (.slice e)) (he : Try.prog.underlying e = some (.struct fs)) (hs : nineFields fs = true) (hC : Try.prog.cellsOf e = fs.size) (hpos : 0 < fs.size)
    (h : DataW.Trod enc Try.prog w 0 spare held t (.slice a len cap) d p) :
    ∃ G, Rws w a len fs.size G ∧ (∀ i c, (G i c).size ≤ maxLen) ∧ (a = none → len = 0 ∧ cap = 0) ∧ len ≤ maxLen := by
  obtain ⟨fuel, hf⟩ := h
  rcases Deep.open_slice ht hf with ⟨hcs, _⟩ | ⟨x, l, cp, m, n, D, Pl, hcs, _, hl, hm, hmm, _, hx⟩
  · simp [Value.cells] at hcs
    obtain ⟨rfl, rfl, rfl⟩ := hcs
    exact ⟨fun _ _ => ByteArray.empty, .inl rfl, fun _ _ => Nat.zero_le _, fun _ => ⟨rfl, rfl⟩, Nat.zero_le _⟩
  · simp [Value.cells] at hcs
    obtain ⟨rfl, rfl, rfl⟩ := hcs
    have hlm : len ≤ m := by rw [hmm]; split <;> omega
    have h1 : ∀ i, i < len → ∃ g : Nat → ByteArray, ∀ c, c < fs.size → w.cell? (x.add (i * fs.size + c)) = some (.string (g c)) ∧ (g c).size ≤ maxLen := by
      intro i hi
      obtain ⟨cs', hc1, hc2⟩ := hx i (by omega)
      obtain ⟨hlen, hstr⟩ := open_strs9 he hs hC hc2
      obtain ⟨_, _, hcell⟩ := World.cells?_some hc1
      rw [hC] at hcell
      have h2 : ∀ c, c < fs.size → ∃ s : ByteArray, w.cell? (x.add (i * fs.size + c)) = some (.string s) ∧ s.size ≤ maxLen := by
        intro c hc
        obtain ⟨s, e1, e2⟩ := hstr c hc
        refine ⟨s, ?_, e2⟩
        have e3 := hcell c hc
        rw [Deep.add_add] at e3
        exact e3.trans e1
      exact Deep.choose_lt h2
    obtain ⟨G, hG⟩ := Deep.choose_lt h1
    refine ⟨fun i c => if i < len ∧ c < fs.size then G i c else ByteArray.empty, ?_, fun i c => ?_, fun h => (by cases h), by omega⟩
    · by_cases h0 : len = 0
      · exact .inl h0
      · have hc0 := (hG 0 (by omega) 0 hpos).1
        obtain ⟨b, off, spot⟩ := x
        have hspot : spot = none := by simpa [Addr.add] using World.cell?_spot hc0
        subst hspot
        refine .inr ⟨b, off, rfl, ?_, fun i c hi hc => ?_⟩
        · have := World.block_lt_of_cell? _ _ hc0
          simpa [Addr.add] using this
        · show _ = some (Value.string (if i < len ∧ c < fs.size then G i c else ByteArray.empty))
          rw [if_pos ⟨hi, hc⟩]
          have := (hG i hi c hc).1
          rw [add_plain, ← Nat.add_assoc] at this
          exact this
    · show (if i < len ∧ c < fs.size then G i c else ByteArray.empty).size ≤ maxLen
      split
      · rename_i hic
        exact (hG i hic.1 c hic.2).2
      · exact Nat.zero_le _

theorem open_ptr9 {t e : TypeId} {fs : Array Field} {a : Option Addr} {d : DataW H} {p : List MemPlace} (ht : Try.prog.underlying t = some (.pointer e)) (he : Try.prog.underlying e = some (.struct fs)) (hs : nineFields fs = true) (hC : Try.prog.cellsOf e = fs.size) (hpos : 0 < fs.size)
    (h : DataW.Trod enc Try.prog w 0 spare held t (.pointer a) d p) : ∃ F, Ptr w a fs.size F := by
  obtain ⟨fuel, hf⟩ := h
  rcases DataW.trod_pointer ht hf with ⟨hcs, _⟩ | ⟨x, cs', y, m, _, hcs, _, hcells, hy⟩
  · simp [Value.cells] at hcs
    subst hcs
    exact ⟨fun _ => ByteArray.empty, .inl rfl⟩
  · simp [Value.cells] at hcs
    subst hcs
    obtain ⟨hlen, hstr⟩ := open_strs9 he hs hC hy
    obtain ⟨_, _, hcell⟩ := World.cells?_some hcells
    rw [hC] at hcell
    have h2 : ∀ c, c < fs.size → ∃ s : ByteArray, w.cell? (x.add c) = some (.string s) := fun c hc => by
      obtain ⟨s, e1, _⟩ := hstr c hc
      exact ⟨s, (hcell c hc).trans e1⟩
    obtain ⟨F, hF⟩ := Deep.choose_lt h2
    have hc0 := hF 0 hpos
    obtain ⟨b, off, spot⟩ := x
    have hspot : spot = none := by simpa [Addr.add] using World.cell?_spot hc0
    subst hspot
    refine ⟨F, .inr ⟨b, off, rfl, ?_, fun c hc => ?_⟩⟩
    · have := World.block_lt_of_cell? _ _ hc0
      simpa [Addr.add] using this
    · have := hF c hc
      rw [add_plain] at this
      exact this
end

end Go.Proofs.Qxb6608572a

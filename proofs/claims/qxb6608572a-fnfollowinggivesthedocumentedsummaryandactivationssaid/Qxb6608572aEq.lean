import Derived.Test.Qxb6608572aFol
namespace Go.Proofs.Qxb6608572a
open Go.ChangeShapes Go.WideShapes Go.ChangeAt Go.RowKit Go.WideMaps Go.Maps

theorem run_isAgg_string {t : TypeId} (h : Try.prog.underlying t = some .string) (w : World) : (isAgg t).run Try.prog w = .ok false w := by
  unfold isAgg
  simp [run_underlying h]

theorem eqFields_same (d : Nat) (xs ys : Array Value) (w : World) : ∀ fs : List Field, (∀ f ∈ fs, f.name ≠ "_" ∧ Try.prog.underlying f.type = some .string ∧ ∃ a : ByteArray, xs[f.offset]? = some (.string a) ∧ ys[f.offset]? = some (.string a)) →
    (Op.eqFields (d + 1) xs ys fs).run Try.prog w = .ok true w
  | [], _ => by simp [Op.eqFields]
  | f :: fs, h => by
    obtain ⟨h1, h2, a, h3, h4⟩ := h f (by simp)
    have ih := eqFields_same d xs ys w fs (fun g hg => h g (by simp [hg]))
    have p1 : (part f.type xs f.offset).run Try.prog w = .ok (.string a) w := by simp [part, run_isAgg_string h2, h3]
    have p2 : (part f.type ys f.offset).run Try.prog w = .ok (.string a) w := by simp [part, run_isAgg_string h2, h4]
    unfold Op.eqFields
    rw [if_pos h1]
    simp only [Sem.run_bind, p1, p2, Result.andThen_ok, run_equalIn_string w d f.type a a h2]
    simpa using ih

/-- Of a struct type: all its fields are strings, at offsets below n, none blank. -/
def strFields (P : Program) (t : TypeId) (n : Nat) : Bool := (P.fieldsOf t).toList.all fun f => f.name != "_" && (match P.underlying f.type with | some .string => true | _ => false) && decide (f.offset < n)

theorem strFields_at {t : TypeId} {n : Nat} (h : strFields Try.prog t n = true) (f : Field) (hf : f ∈ (Try.prog.fieldsOf t).toList) : f.name ≠ "_" ∧ Try.prog.underlying f.type = some .string ∧ f.offset < n := by
  have := List.all_eq_true.1 h f hf
  simp only [Bool.and_eq_true, bne_iff_ne, decide_eq_true_eq] at this
  obtain ⟨⟨h1, h2⟩, h3⟩ := this
  refine ⟨h1, ?_, h3⟩
  split at h2
  · assumption
  · cases h2

theorem str68 : strFields Try.prog 68 8 = true := by kernel_rfl
theorem str76 : strFields Try.prog 76 2 = true := by kernel_rfl
theorem under68 : Try.prog.underlying 68 = some (.struct (Try.prog.fieldsOf 68)) := by kernel_rfl
theorem under76 : Try.prog.underlying 76 = some (.struct (Try.prog.fieldsOf 76)) := by kernel_rfl
theorem stood68 : Try.prog.stoodInHeld 68 = false := by kernel_rfl
theorem stood76 : Try.prog.stoodInHeld 76 = false := by kernel_rfl
theorem guard68 : Try.prog.eqGuardType Try.prog.depth 68 = false := by kernel_rfl
theorem guard76 : Try.prog.eqGuardType Try.prog.depth 76 = false := by kernel_rfl

theorem gd68 (w : World) (x y : Operand) (xs ys : Array Value) : (eqGuard .neq 68 x y (.agg xs) (.agg ys)).run Try.prog w = .ok () w := run_eqGuard_agg w .neq 68 x y xs ys guard68
theorem gd76 (w : World) (x y : Operand) (xs ys : Array Value) : (eqGuard .neq 76 x y (.agg xs) (.agg ys)).run Try.prog w = .ok () w := run_eqGuard_agg w .neq 76 x y xs ys guard76

theorem lt8 {p : Nat → Prop} (h0 : p 0) (h1 : p 1) (h2 : p 2) (h3 : p 3) (h4 : p 4) (h5 : p 5) (h6 : p 6) (h7 : p 7) : ∀ j, j < 8 → p j
  | 0, _ => h0
  | 1, _ => h1
  | 2, _ => h2
  | 3, _ => h3
  | 4, _ => h4
  | 5, _ => h5
  | 6, _ => h6
  | 7, _ => h7
  | n + 8, h => by omega

theorem neq68 (a b c d e f g i : ByteArray) (w : World) :
    (binOp .neq 68 (.agg #[.string a, .string b, .string c, .string d, .string e, .string f, .string g, .string i]) (.agg #[.string a, .string b, .string c, .string d, .string e, .string f, .string g, .string i])).run Try.prog w = .ok (.bool false) w := by
  rw [run_neq_struct, run_equalIn_struct w 9999 68 _ _ under68 stood68, eqFields_same 9998 _ _ w _ (fun x hx => ?_)]
  · rfl
  · obtain ⟨h1, h2, h3⟩ := strFields_at str68 x hx
    refine ⟨h1, h2, ?_⟩
    exact lt8 (p := fun j => ∃ s : ByteArray, (#[.string a, .string b, .string c, .string d, .string e, .string f, .string g, .string i] : Array Value)[j]? = some (.string s) ∧ (#[.string a, .string b, .string c, .string d, .string e, .string f, .string g, .string i] : Array Value)[j]? = some (.string s))
      ⟨a, rfl, rfl⟩ ⟨b, rfl, rfl⟩ ⟨c, rfl, rfl⟩ ⟨d, rfl, rfl⟩ ⟨e, rfl, rfl⟩ ⟨f, rfl, rfl⟩ ⟨g, rfl, rfl⟩ ⟨i, rfl, rfl⟩ x.offset h3

theorem lt2 {p : Nat → Prop} (h0 : p 0) (h1 : p 1) : ∀ j, j < 2 → p j
  | 0, _ => h0
  | 1, _ => h1
  | n + 2, h => by omega

theorem neq76 (a b : ByteArray) (w : World) :
    (binOp .neq 76 (.agg #[.string a, .string b]) (.agg #[.string a, .string b])).run Try.prog w = .ok (.bool false) w := by
  rw [run_neq_struct, run_equalIn_struct w 9999 76 _ _ under76 stood76, eqFields_same 9998 _ _ w _ (fun x hx => ?_)]
  · rfl
  · obtain ⟨h1, h2, h3⟩ := strFields_at str76 x hx
    refine ⟨h1, h2, ?_⟩
    exact lt2 (p := fun j => ∃ s : ByteArray, (#[.string a, .string b] : Array Value)[j]? = some (.string s) ∧ (#[.string a, .string b] : Array Value)[j]? = some (.string s)) ⟨a, rfl, rfl⟩ ⟨b, rfl, rfl⟩ x.offset h3

theorem gd33 (w : World) (x y : Operand) (xs ys : Array Value) : (eqGuard .neq 33 x y (.agg xs) (.agg ys)).run Try.prog w = .ok () w := run_eqGuard_agg w .neq 33 x y xs ys (by kernel_rfl)
theorem neq33 (w : World) : (binOp .neq 33 (.agg #[.int .u64 0, .int .i64 0, .pointer none]) (.agg #[.int .u64 0, .int .i64 0, .pointer none])).run Try.prog w = .ok (.bool false) w := by kernel_rfl

end Go.Proofs.Qxb6608572a

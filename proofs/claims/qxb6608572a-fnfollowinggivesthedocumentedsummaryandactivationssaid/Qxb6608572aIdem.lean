import Derived.Test.Qxb6608572aRule
namespace Go.Proofs.Qxb6608572a
open Go.ChangeShapes Go.WideShapes Go.ChangeAt Go.RowKit Go.WideMaps Go.Maps

/-- A second call, fed the first one's result, leaves the activations as they are. -/
theorem then_again (BM : Text → Option Bun) (KM : Text → Option Avn) : thenM (thenM KM (shownM BM)) (shownM (newM BM (thenM KM (shownM BM)))) = thenM KM (shownM BM) := by
  funext x
  cases hb : BM x with
  | none => simp [thenM, shownM, newM, hb]
  | some b =>
    by_cases he : b.first.toList = []
    · cases hk : KM x with
      | none => simp [thenM, shownM, newM, newB, hb, he, hk]
      | some k =>
        by_cases hr : k.rev.toList = b.rev.toList
        · by_cases hf : k.first.toList = [] <;> simp [thenM, shownM, newM, newB, hb, he, hk, hr, hf]
        · simp [thenM, shownM, newM, newB, hb, he, hk, hr]
    · cases hk : KM x with
      | none => simp [thenM, shownM, newM, newB, hb, he, hk]
      | some k =>
        by_cases hr : k.rev.toList = b.rev.toList
        · by_cases hf : k.first.toList = [] <;> simp [thenM, shownM, newM, newB, hb, he, hk, hr, hf]
        · simp [thenM, shownM, newM, newB, hb, he, hk, hr]

/-- .. and the bundles. -/
theorem new_again (BM : Text → Option Bun) (AM : Text → Option Avn) : newM (newM BM AM) AM = newM BM AM := by
  funext x
  cases hb : BM x with
  | none => simp [newM, hb]
  | some b =>
    cases ha : AM x with
    | none => simp [newM, newB, hb, ha]
    | some a => by_cases hr : a.rev.toList = b.rev.toList <;> simp [newM, newB, hb, ha, hr]

end Go.Proofs.Qxb6608572a

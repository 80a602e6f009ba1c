import Derived.Test.Qxb6605967aLaw6a
namespace Go.Proofs.Qxb6605967a
open Go.ChangeShapes Go.WideShapes Go.ChangeAt Go.RowKit Go.WideMaps Go.Maps

set_option maxHeartbeats 800000 in
set_option maxRecDepth 100000 in
theorem law6_nil (s : ByteArray) (w : World) (hs : s.size ≤ maxLen) :
    Calls Try.prog 6 #[.slice none 0 0, .string s] w fun e w' => e = .returned (.bool true) ∧ Below w.heap.size w w' := by
  by_cases hbigs : 1048576 < (s.size : Int)
  · go_enter Try.func6, Try.ntmps6
    go_wp2_with fail
    refine (bytes13_nil _ 0 s _).mono ?_
    rintro e w' ⟨⟨y, rfl⟩, rfl⟩
    cases y
    · go_wp2
      go_ret
      exact ⟨rfl, Below.refl _ _⟩
    · go_wp2
      go_ret
      exact ⟨rfl, Below.refl _ _⟩
  go_enter Try.func6, Try.ntmps6
  go_wp2_with fail
  refine (bytes13_nil _ 0 s _).mono ?_
  rintro e w' ⟨⟨y, rfl⟩, rfl⟩
  cases y
  · go_wp2
    go_ret
    exact ⟨rfl, Below.refl _ _⟩
  go_wp2
  refine wp_loop_rounds 1 ?_
  rw [rounds_succ]
  go_wp2_with fail
  refine (clone10_nil _).mono ?_
  rintro e w1 ⟨rfl, rfl⟩
  go_wp2_with fail
  refine (new11 _).mono ?_
  rintro e w2 ⟨rfl, hN2, hb2⟩
  have hmk : ∀ w : World, (Instr.makeSlice 32 (.int .i64 0) (.int .i64 0)).run Try.prog w = .ok (.slice (some ⟨w.heap.size, 0, none⟩) 0 0) (w.alloc (.cells (madeCells #[.int .i64 0] 0) 3)) :=
    fun w => run_make_row' (P := Try.prog) 32 3 (.int .i64 0) 8 Try.underlying32 Try.info3 rfl .i64 .i64 0 (by omega) (by omega) w
  go_wp2
  refine wp_loop_rounds 1 ?_
  rw [rounds_succ]
  go_wp2
  refine wp_loop_rounds 1 ?_
  rw [rounds_succ]
  go_wp2
  refine wp_loop_rounds 1 ?_
  rw [rounds_succ]
  go_wp2_with fail
  have hN3 : Num ((w2.alloc (.cells #[.map (some (w1.heap.size + 1)), .map (some (w1.heap.size + 2))] 30)).alloc (.cells (madeCells #[.int .i64 0] 0) 3)) (w1.heap.size + 1) 0 [] :=
    (hN2.kept (World.grownBy_alloc _ _ none) (by simp)).kept (World.grownBy_alloc _ _ none) (by simp)
  have hs2 := hb2.size
  have hbel : Below w1.heap.size w1 ((w2.alloc (.cells #[.map (some (w1.heap.size + 1)), .map (some (w1.heap.size + 2))] 30)).alloc (.cells (madeCells #[.int .i64 0] 0) 3)) := (hb2.alloc hs2 _).alloc (by simp; omega) _
  have hlt2 := hN2.lt
  refine (of14_no (w1.heap.size + 1) (w1.heap.size + 2) 0 [] s _ hs hN3 rfl).mono ?_
  rintro e w3 ⟨⟨c, rfl⟩, hN4, hg⟩
  have hc0 : w3.cell? ⟨w2.heap.size, 0, none⟩ = some (.map (some (w1.heap.size + 1))) := by
    rw [World.cell?_of_block (a := ⟨w2.heap.size, 0, none⟩) (hg.block w2.heap.size (by simp; omega) (by simp; omega))]
    simp
  have hc1 : w3.cell? ⟨w2.heap.size, 1, none⟩ = some (.map (some (w1.heap.size + 2))) := by
    rw [World.cell?_of_block (a := ⟨w2.heap.size, 1, none⟩) (hg.block w2.heap.size (by simp; omega) (by simp; omega))]
    simp
  have hbel3 := hbel.grown hg (by simp; omega) (fun j hj => by cases hj; omega)
  go_wp2
  refine wp_loop_rounds 1 ?_
  rw [rounds_succ]
  go_wp2_with fail
  refine (number12_new (w1.heap.size + 1) (w1.heap.size + 2) 0 [] s _ hs (by unfold maxLen; omega) (by simp) hN4 rfl).mono ?_
  rintro e w6 ⟨rfl, hN, hg6⟩
  have hbel6 := hbel3.grown hg6 hbel3.size (fun j hj => by cases hj; omega)
  go_wp2
  go_ret
  exact ⟨rfl, hbel6⟩

set_option maxHeartbeats 800000 in
set_option maxRecDepth 100000 in
theorem law6_empty (x : Addr) (cap : Nat) (s : ByteArray) (w : World) (hs : s.size ≤ maxLen) :
    Calls Try.prog 6 #[.slice (some x) 0 cap, .string s] w fun e w' => e = .returned (.bool true) ∧ Below w.heap.size w w' := by
  by_cases hbigs : 1048576 < (s.size : Int)
  · go_enter Try.func6, Try.ntmps6
    go_wp2_with fail
    refine (bytes13_nil _ cap s _).mono ?_
    rintro e w' ⟨⟨y, rfl⟩, rfl⟩
    cases y
    · go_wp2
      go_ret
      exact ⟨rfl, Below.refl _ _⟩
    · go_wp2
      go_ret
      exact ⟨rfl, Below.refl _ _⟩
  go_enter Try.func6, Try.ntmps6
  go_wp2_with fail
  refine (bytes13_nil _ cap s _).mono ?_
  rintro e w' ⟨⟨y, rfl⟩, rfl⟩
  cases y
  · go_wp2
    go_ret
    exact ⟨rfl, Below.refl _ _⟩
  go_wp2
  refine wp_loop_rounds 1 ?_
  rw [rounds_succ]
  go_wp2_with fail
  refine (clone10_empty x cap _).mono ?_
  rintro e w1 ⟨rfl, hb1⟩
  go_wp2_with fail
  refine (new11 _).mono ?_
  rintro e w2 ⟨rfl, hN2, hb2⟩
  have hmk : ∀ w : World, (Instr.makeSlice 32 (.int .i64 0) (.int .i64 0)).run Try.prog w = .ok (.slice (some ⟨w.heap.size, 0, none⟩) 0 0) (w.alloc (.cells (madeCells #[.int .i64 0] 0) 3)) :=
    fun w => run_make_row' (P := Try.prog) 32 3 (.int .i64 0) 8 Try.underlying32 Try.info3 rfl .i64 .i64 0 (by omega) (by omega) w
  go_wp2
  refine wp_loop_rounds 1 ?_
  rw [rounds_succ]
  go_wp2
  refine wp_loop_rounds 1 ?_
  rw [rounds_succ]
  go_wp2
  refine wp_loop_rounds 1 ?_
  rw [rounds_succ]
  go_wp2_with fail
  have hN3 : Num ((w2.alloc (.cells #[.map (some (w1.heap.size + 1)), .map (some (w1.heap.size + 2))] 30)).alloc (.cells (madeCells #[.int .i64 0] 0) 3)) (w1.heap.size + 1) 0 [] :=
    (hN2.kept (World.grownBy_alloc _ _ none) (by simp)).kept (World.grownBy_alloc _ _ none) (by simp)
  have hs2 := hb2.size
  have hs1 := hb1.size
  have hbel : Below w.heap.size w ((w2.alloc (.cells #[.map (some (w1.heap.size + 1)), .map (some (w1.heap.size + 2))] 30)).alloc (.cells (madeCells #[.int .i64 0] 0) 3)) := ((hb1.trans (hb2.mono hs1)).alloc (by omega) _).alloc (by simp; omega) _
  have hlt2 := hN2.lt
  refine (of14_no (w1.heap.size + 1) (w1.heap.size + 2) 0 [] s _ hs hN3 rfl).mono ?_
  rintro e w3 ⟨⟨c, rfl⟩, hN4, hg⟩
  have hc0 : w3.cell? ⟨w2.heap.size, 0, none⟩ = some (.map (some (w1.heap.size + 1))) := by
    rw [World.cell?_of_block (a := ⟨w2.heap.size, 0, none⟩) (hg.block w2.heap.size (by simp; omega) (by simp; omega))]
    simp
  have hc1 : w3.cell? ⟨w2.heap.size, 1, none⟩ = some (.map (some (w1.heap.size + 2))) := by
    rw [World.cell?_of_block (a := ⟨w2.heap.size, 1, none⟩) (hg.block w2.heap.size (by simp; omega) (by simp; omega))]
    simp
  have hbel3 := hbel.grown hg (by simp; omega) (fun j hj => by cases hj; omega)
  go_wp2
  refine wp_loop_rounds 1 ?_
  rw [rounds_succ]
  go_wp2_with fail
  refine (number12_new (w1.heap.size + 1) (w1.heap.size + 2) 0 [] s _ hs (by unfold maxLen; omega) (by simp) hN4 rfl).mono ?_
  rintro e w6 ⟨rfl, hN, hg6⟩
  have hbel6 := hbel3.grown hg6 hbel3.size (fun j hj => by cases hj; omega)
  go_wp2
  go_ret
  exact ⟨rfl, hbel6⟩

end Go.Proofs.Qxb6605967a

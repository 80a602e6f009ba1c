import Derived.Test.Qxb6608710aScan3
import Derived.OwnWalk
import Derived.Deep.OwnRows
import Derived.Laws.CopyOwn
import Derived.Below
namespace Go.Proofs.Qxb6608710a
open Go.ChangeShapes Go.WideShapes Go.ChangeAt Go.RowKit

theorem Try.info5 : (Try.prog.info? 5).map (fun i => (i.zero, i.size, i.bytes)) = some (some (.int .u8 0), 1, 1) := by kernel_rfl

/-- The bytes as values. -/
def vals (Z : Nat → Int) (n : Nat) : List Value := (List.range n).map fun j => .int .u8 (Z j)
theorem vals_length (Z : Nat → Int) (n : Nat) : (vals Z n).length = n := by simp [vals]
theorem vals_get (Z : Nat → Int) {n j : Nat} (h : j < n) : (vals Z n)[j]? = some (.int .u8 (Z j)) := by simp [vals, h]
theorem vals_get' {Z : Nat → Int} {n j : Nat} {v : Value} (h : (vals Z n)[j]? = some v) : j < n ∧ v = .int .u8 (Z j) := by
  have hj : j < n := by have := (List.getElem?_eq_some_iff.1 h).1; simpa [vals] using this
  rw [vals_get Z hj] at h
  exact ⟨hj, (Option.some.inj h).symm⟩
theorem vals_one (Z : Nat → Int) (n : Nat) : ∀ v ∈ vals Z n, v.oneCell' = true := by
  intro v hv
  simp only [vals, List.mem_map] at hv
  obtain ⟨j, _, rfl⟩ := hv
  rfl

/-- The row that the law's own copy leaves. -/
def Row5 (w : World) (b : Nat) (Z : Nat → Int) (n : Nat) : Prop := w.heap[b]? = some (.cells (vals Z n).toArray 5 (0, 0))
theorem Row5.cell {w : World} {b n : Nat} {Z : Nat → Int} (h : Row5 w b Z n) {j : Nat} (hj : j < n) : w.cell? ⟨b, j, none⟩ = some (.int .u8 (Z j)) := by
  have e := vals_get Z hj
  simp [World.cell?, show w.heap[b]? = _ from h, e]

theorem copied (x : Addr) (n cap : Nat) (Z : Nat → Int) (w : World) (hn : n ≤ 1048576) (hc : ∀ j, j < n → w.cell? (x.add j) = some (.int .u8 (Z j))) :
    ∃ w1 w2 : World, (Instr.makeSlice 22 (.int .i64 (n : Int)) (.int .i64 (n : Int))).run Try.prog w = .ok (.slice (some ⟨w.heap.size, 0, none⟩) n n) w1 ∧
      (Builtin.copy_ #[22, 22] 3 #[.slice (some ⟨w.heap.size, 0, none⟩) n n, .slice (some x) n cap]).run Try.prog w1 = .ok (.int .i64 (n : Int)) w2 ∧
      Row5 w2 w.heap.size Z n ∧ w2.heap.size = w.heap.size + 1 ∧ Below w.heap.size w w2 := by
  have hmk := run_make_row' (P := Try.prog) 22 5 (.int .u8 0) 1 Try.underlying22 Try.info5 rfl .i64 .i64 n (by omega) (by omega) w
  have hb1 : Below w.heap.size w (w.alloc (.cells (madeCells #[.int .u8 0] n) 5)) := (Below.refl _ _).alloc (Nat.le_refl _) _
  have hg : (w.alloc (.cells (madeCells #[.int .u8 0] n) 5)).heap[w.heap.size]? = some (.cells (madeCells #[.int .u8 0] n) 5 (0, 0)) := heap_alloc_new w _
  have hs : (madeCells #[(.int .u8 0 : Value)] n).size = n := size_madeCells _ _
  have hcp := run_copy_row (P := Try.prog) (w.alloc (.cells (madeCells #[.int .u8 0] n) 5)) 22 22 3 5 w.heap.size 0 n n x n cap _ 5 (vals Z n) Try.underlying22 (by kernel_rfl) hg (by rw [vals_length]; exact (Nat.min_self n).symm)
    (fun j v hv => by obtain ⟨hj, rfl⟩ := vals_get' hv; exact (hb1.cell (World.block_lt_of_cell? _ _ (hc j hj))).trans (hc j hj)) (by rw [vals_length, hs]; omega) (vals_one Z n)
  have e : List.take 0 (madeCells #[(.int .u8 0 : Value)] n).toList ++ vals Z n ++ List.drop (0 + (vals Z n).length) (madeCells #[(.int .u8 0 : Value)] n).toList = vals Z n := by
    simp [vals_length, hs]
  rw [e, vals_length] at hcp
  exact ⟨_, _, hmk, hcp, setRow_heap _ _ _ _ _ _ hg, by simp, below_setRow hb1 (Nat.le_refl _) _⟩

/-- The bytes with a minus put in at i. -/
def negZ (Z : Nat → Int) (i j : Nat) : Int := if j < i then Z j else if j = i then 45 else Z (j - 1)

theorem negZ_at (Z : Nat → Int) (i : Nat) : negZ Z i i = 45 := by simp [negZ]
theorem negZ_up (Z : Nat → Int) (i j : Nat) (h : i ≤ j) : negZ Z i (j + 1) = Z j := by
  unfold negZ; rw [if_neg (by omega), if_neg (by omega)]; rfl

theorem grown_bel {b : Nat} {w0 w w' : World} {row : Option Nat} (h : Below b w0 w) (hg : w.grownBy w' row) (hr : ∀ k, row = some k → b ≤ k) (hs : b ≤ w0.heap.size) : Below b w0 w' :=
  h.trans ⟨hg.os, hg.tape, hg.output, hg.size, fun k hk => hg.block k (Nat.lt_of_lt_of_le hk (Nat.le_trans hs h.size)) (fun e => by have := hr k e.symm; omega)⟩

theorem add0 (b j : Nat) : (⟨b, 0, none⟩ : Addr).add j = ⟨b, j, none⟩ := by rw [Addr.add_lit, Nat.zero_add]

theorem negated (w2 : World) (B G n i : Nat) (Z : Nat → Int) (hB : B < G) (hG : w2.heap.size = G) (hrow : Row5 w2 B Z n) (hn : n ≤ 1048576) (hi : i < n) :
    ∃ w3 w4 w5 w6 : World, (Instr.makeSlice 22 (.int .i64 0) (.int .i64 ((n : Int) + 1))).run Try.prog w2 = .ok (.slice (some ⟨G, 0, none⟩) 0 (n + 1)) w3 ∧
      (Builtin.append_ #[22, 22] 22 #[.slice (some ⟨G, 0, none⟩) 0 (n + 1), .slice (some ⟨B, 0, none⟩) i n]).run Try.prog w3 = .ok (.slice (some ⟨G, 0, none⟩) i (n + 1)) w4 ∧
      (Builtin.append_ #[22, 22] 22 #[.slice (some ⟨G, 0, none⟩) i (n + 1), .slice (some ⟨w4.heap.size, 0, none⟩) 1 1]).run Try.prog (w4.alloc (.cells #[.int .u8 45] 5)) = .ok (.slice (some ⟨G, 0, none⟩) (i + 1) (n + 1)) w5 ∧
      (Builtin.append_ #[22, 22] 22 #[.slice (some ⟨G, 0, none⟩) (i + 1) (n + 1), .slice (some ⟨B, i, none⟩) (n - i) (n - i)]).run Try.prog w5 = .ok (.slice (some ⟨G, 0, none⟩) (n + 1) (n + 1)) w6 ∧
      Row5 w6 B Z n ∧ (∀ j, j < n + 1 → w6.cell? ⟨G, j, none⟩ = some (.int .u8 (negZ Z i j))) ∧ Below G w2 w6 := by
  obtain ⟨i5, hi5, hz0, hz1, hz2⟩ := info_parts Try.info5
  subst hG
  obtain ⟨w3, hr3, ho3, hg3⟩ := run_make_own (P := Try.prog) w2 w2.heap.size 22 5 i5 (.int .u8 0) 1 Try.underlying22 hi5 hz0 hz1 .i64 .i64 (n + 1) (by rw [hz2]; omega) (by simp [maxLen]; omega) (Nat.le_refl _)
  have b3 := grown_bel (Below.refl w2.heap.size w2) hg3 (fun k e => by cases e) (Nat.le_refl _)
  have r3 : Row5 w3 B Z n := (b3.block B hB).trans hrow
  obtain ⟨w4, hr4, ho4, hg4⟩ := run_append_fits (P := Try.prog) w3 w2.heap.size 22 22 5 i5 1 Try.underlying22 hi5 hz1 _ 0 (n + 1) [] ho3 ⟨B, 0, none⟩ i n (vals Z i) (by rw [vals_length]; omega)
    (fun j u hu => by obtain ⟨hj, rfl⟩ := vals_get' hu; rw [add0]; exact r3.cell (by omega)) (vals_one Z i) (by omega)
  have b4 := grown_bel b3 hg4 (fun k e => by cases e; exact Nat.le_refl _) (Nat.le_refl _)
  rw [Nat.zero_add] at hr4 ho4
  have ho4' := ho4.alloc (.cells #[.int .u8 45] 5)
  have b4' := grown_bel b4 (World.grownBy_alloc w4 (.cells #[.int .u8 45] 5) none) (fun k e => by cases e) (Nat.le_refl _)
  obtain ⟨w5, hr5, ho5, hg5⟩ := run_append_fits (P := Try.prog) (w4.alloc (.cells #[.int .u8 45] 5)) w2.heap.size 22 22 5 i5 1 Try.underlying22 hi5 hz1 _ i (n + 1) _ ho4' ⟨w4.heap.size, 0, none⟩ 1 1 [.int .u8 45] (by simp)
    (fun j u hu => by
      have hj : j = 0 := by have := (List.getElem?_eq_some_iff.1 hu).1; simpa using this
      subst hj
      rw [add0]
      have hh : (w4.alloc (.cells #[.int .u8 45] 5)).heap[w4.heap.size]? = some (.cells #[.int .u8 45] 5 (0, 0)) := heap_alloc_new w4 _
      rw [World.cell?, hh]
      exact hu) (by simp [Value.oneCell']) (by omega)
  have b5 := grown_bel b4' hg5 (fun k e => by cases e; exact Nat.le_refl _) (Nat.le_refl _)
  have r5 : Row5 w5 B Z n := (b5.block B hB).trans hrow
  obtain ⟨w6, hr6, ho6, hg6⟩ := run_append_fits (P := Try.prog) w5 w2.heap.size 22 22 5 i5 1 Try.underlying22 hi5 hz1 _ (i + 1) (n + 1) _ ho5 ⟨B, i, none⟩ (n - i) (n - i) (vals (fun j => Z (i + j)) (n - i)) (by rw [vals_length]; omega)
    (fun j u hu => by obtain ⟨hj, rfl⟩ := vals_get' hu; rw [Addr.add_lit]; exact r5.cell (by omega)) (vals_one _ _) (by omega)
  have b6 := grown_bel b5 hg6 (fun k e => by cases e; exact Nat.le_refl _) (Nat.le_refl _)
  rw [show i + 1 + (n - i) = n + 1 by omega] at hr6 ho6
  refine ⟨w3, w4, w5, w6, hr3, hr4, hr5, hr6, (b6.block B hB).trans hrow, fun j hj => ?_, b6⟩
  rw [ho6.cellAt j (by omega)]
  unfold negZ
  by_cases h1 : j < i
  · rw [if_pos h1, List.nil_append, List.append_assoc, List.getElem?_append_left (by rw [vals_length]; exact h1), vals_get Z h1]
  · rw [if_neg h1, List.nil_append, List.append_assoc, List.getElem?_append_right (by rw [vals_length]; omega), vals_length]
    by_cases h2 : j = i
    · subst h2; simp
    · rw [if_neg h2, List.getElem?_append_right (by simp; omega), vals_get _ (by simp; omega)]
      simp only [List.length_singleton]
      rw [show i + (j - i - 1) = j - 1 by omega]

theorem wpList_append_run {P : Program} {w w' : World} {ops : Array Oper} {rest : List Oper} {o : Oper} {a : Act} {Q : Exit → Act → World → Prop}
    (hg : o.guard = none) (s x : Operand) (t : TypeId) (hop : o.op = Op.call { callee := Callee.builtin Builtin.append, args := #[s, x], argTypes := #[t, t] })
    {u v r : Value} (hrun : (Builtin.append_ #[t, t] o.type #[u, v]).run P w = .ok r w') (hs : a.eval s = u) (hx : a.eval x = v)
    (hK : wpList P ops Q rest (a.put o.dst r) w') : wpList P ops Q (o :: rest) a w := by
  refine wpList_plain hg fun K hK' => ?_
  subst hs
  subst hx
  unfold Oper.wp
  simp [execOp, hop, resolve, invoke, builtin, hrun, Result.andThen]
  exact hK' _ _ hK

set_option maxRecDepth 100000 in
theorem law4_some (x : Addr) (n cap i : Nat) (Z : Nat → Int) (w : World) (hn : n ≤ 1048576) (hi : i < n) (hc : ∀ j, j < n → w.cell? (x.add j) = some (.int .u8 (Z j))) :
    Calls Try.prog 4 #[.slice (some x) n cap, .int .i64 (i : Int)] w fun e w' => e = .returned (.bool true) ∧ Below w.heap.size w w' := by
  obtain ⟨w1, w2, hmk, hcp, hrow, hsz, hbel⟩ := copied x n cap Z w hn hc
  obtain ⟨G, hG⟩ : ∃ G, w2.heap.size = G := ⟨_, rfl⟩
  have hBG : w.heap.size < G := by omega
  obtain ⟨w3, w4, w5, w6, hr3, hr4, hr5, hr6, hrow6, hcell6, hb6⟩ := negated w2 w.heap.size G n i Z hBG hG hrow hn hi
  have c1 := scan6 w.heap.size 0 n n Z i w6 (by omega) hi (fun j hj => by rw [Nat.zero_add]; exact hrow6.cell hj)
  have c2 := scan6 G 0 (n + 1) (n + 1) (negZ Z i) i w6 (by omega) (by omega) (fun j hj => by rw [Nat.zero_add]; exact hcell6 j hj)
  have hci := hrow6.cell hi
  have up : ∀ j, i ≤ j → j < n → negZ Z i (j + 1) = Z j := fun j h _ => negZ_up Z i j h
  have hle := scan_le Z hi
  obtain ⟨E, k, hE⟩ : ∃ E k, scan Z n i = (E, k) := ⟨_, _, rfl⟩
  have HB : Hid (Below w.heap.size w w6) := hbel.trans (hb6.mono (by omega))
  clear hsz hG hBG hb6 hrow6 hcell6 hrow hbel hc
  have hne : ¬ n = i := by omega
  have q := fun (w : World) (a : Option Addr) (n c n' c' : Nat) => Lib.run_eql_slice_nil (P := Try.prog) w _ _ a n c n' c' Try.underlying22
  cases hm : (Z i == 45)
  · have h2 := scan_up up (negZ_at Z i) hm
    rw [h2, hE] at c2
    rw [hE] at c1 hle
    clear h2 up hE
    simp only at c1 c2 hle
    go_enter Try.func4, Try.ntmps4
    go_wp2_with fail
    refine (bytes10 _ _ _ _ _ hn).mono ?_
    rintro e w' ⟨rfl, rfl⟩
    go_wp2_with (at_builtin; first | refine wpList_append_run rfl (.tmp 39) (.tmp 42) 22 rfl hr4 rfl rfl ?_ | refine wpList_append_run rfl (.tmp 44) (.tmp 45) 22 rfl hr5 rfl rfl ?_ | refine wpList_append_run rfl (.tmp 47) (.tmp 50) 22 rfl hr6 rfl rfl ?_)
    refine c1.mono ?_
    rintro e w' ⟨rfl, rfl⟩
    go_wp2_with fail
    refine c2.mono ?_
    rintro e w' ⟨rfl, rfl⟩
    go_wp2_with fail
    all_goals (go_ret; exact ⟨rfl, HB.out⟩)
  · have hz : Z i = 45 := by simpa using hm
    have h2 := scan_minus up hi (negZ_at Z i) hz
    rw [h2] at c2
    rw [hE] at c1
    clear h2 up hE hle
    simp only at c1 c2
    go_enter Try.func4, Try.ntmps4
    go_wp2_with fail
    refine (bytes10 _ _ _ _ _ hn).mono ?_
    rintro e w' ⟨rfl, rfl⟩
    go_wp2_with (at_builtin; first | refine wpList_append_run rfl (.tmp 39) (.tmp 42) 22 rfl hr4 rfl rfl ?_ | refine wpList_append_run rfl (.tmp 44) (.tmp 45) 22 rfl hr5 rfl rfl ?_ | refine wpList_append_run rfl (.tmp 47) (.tmp 50) 22 rfl hr6 rfl rfl ?_)
    refine c1.mono ?_
    rintro e w' ⟨rfl, rfl⟩
    go_wp2_with fail
    refine c2.mono ?_
    rintro e w' ⟨rfl, rfl⟩
    go_wp2_with fail
    all_goals (go_ret; exact ⟨rfl, HB.out⟩)

/-- Where the law answers at once. -/
theorem law4_big (a : Option Addr) (n cap : Nat) (i : Int) (w : World) (hn : ¬ n ≤ 1048576) :
    Calls Try.prog 4 #[.slice a n cap, .int .i64 i] w fun e w' => e = .returned (.bool true) ∧ Below w.heap.size w w' := by
  go_enter Try.func4, Try.ntmps4
  go_wp2_with fail
  refine (bytes10_big _ _ _ _ _ hn).mono ?_
  rintro e w' ⟨rfl, rfl⟩
  go_wp2_with fail
  go_ret
  exact ⟨rfl, Below.refl _ _⟩
theorem law4_out (a : Option Addr) (n cap : Nat) (i : Int) (w : World) (hn : n ≤ 1048576) (hi : i < 0 ∨ (n : Int) ≤ i) :
    Calls Try.prog 4 #[.slice a n cap, .int .i64 i] w fun e w' => e = .returned (.bool true) ∧ Below w.heap.size w w' := by
  rcases hi with h | h
  · go_enter Try.func4, Try.ntmps4
    go_wp2_with fail
    refine (bytes10 _ _ _ _ _ hn).mono ?_
    rintro e w' ⟨rfl, rfl⟩
    go_wp2_with fail
    go_ret
    exact ⟨rfl, Below.refl _ _⟩
  · have h0 : ¬ i < 0 := by omega
    go_enter Try.func4, Try.ntmps4
    go_wp2_with fail
    refine (bytes10 _ _ _ _ _ hn).mono ?_
    rintro e w' ⟨rfl, rfl⟩
    go_wp2_with fail
    go_ret
    exact ⟨rfl, Below.refl _ _⟩

theorem law4 (a : Option Addr) (n cap : Nat) (Z : Nat → Int) (i : Int) (w : World) (hc : ∀ j, j < n → ∃ x, a = some x ∧ w.cell? (x.add j) = some (.int .u8 (Z j))) :
    Calls Try.prog 4 #[.slice a n cap, .int .i64 i] w fun e w' => e = .returned (.bool true) ∧ Below w.heap.size w w' := by
  by_cases hn : n ≤ 1048576
  · by_cases hi : i < 0 ∨ (n : Int) ≤ i
    · exact law4_out a n cap i w hn hi
    · obtain ⟨k, rfl⟩ : ∃ k : Nat, i = (k : Int) := ⟨i.toNat, by omega⟩
      have hk : k < n := by omega
      obtain ⟨x, rfl, _⟩ := hc k hk
      exact law4_some x n cap k Z w hn hk (fun j hj => by obtain ⟨y, hy, h⟩ := hc j hj; cases hy; exact h)
  · exact law4_big a n cap i w hn

end Go.Proofs.Qxb6608710a

import Derived.Test.Qxb6608710aNeg
import Derived.Test.Qxb6608710aAut
namespace Go.Proofs.Qxb6608710a
open Go.ChangeShapes Go.WideShapes Go.ChangeAt Go.RowKit

set_option maxRecDepth 100000 in
theorem law3_some (x : Addr) (n cap i : Nat) (Z : Nat → Int) (w : World) (hn : n ≤ 1048576) (hi : i < n) (hc : ∀ j, j < n → w.cell? (x.add j) = some (.int .u8 (Z j))) :
    Calls Try.prog 3 #[.slice (some x) n cap, .int .i64 (i : Int)] w fun e w' => e = .returned (.bool true) ∧ Below w.heap.size w w' := by
  obtain ⟨w1, w2, hmk, hcp, hrow, _, hbel⟩ := copied x n cap Z w hn hc
  have c6 := scan6 w.heap.size 0 n n Z i w2 (by omega) hi (fun j hj => by rw [Nat.zero_add]; exact hrow.cell hj)
  have hle := scan_le Z hi
  obtain ⟨s, ⟨_, hrun⟩, hs9, hstep, hcom⟩ := scan_fin Z n i
  obtain ⟨E, k, hE⟩ : ∃ E k, scan Z n i = (E, k) := ⟨_, _, rfl⟩
  rw [hE] at c6 hle hrun hstep hcom
  simp only at c6 hle hrun hstep hcom
  have c7 := run7 w.heap.size i (E - i) (n - i) (fun j => Z (i + j)) w2 (by omega) (fun j hj => hrow.cell (by omega))
  have hs := run_le (fun j => Z (i + j)) (E - i)
  rw [hrun] at c7 hs
  have c9 := complete9 s hs w2
  subst hcom
  have q := fun (w : World) (a : Option Addr) (n c n' c' : Nat) => Lib.run_eql_slice_nil (P := Try.prog) w _ _ a n c n' c' Try.underlying22
  have hne : ¬ n = i := by omega
  have HB : Hid (Below w.heap.size w w2) := hbel
  by_cases hlt : E < n
  · have hcE := hrow.cell hlt
    have c8 := step8 s hs (Z E) w2
    rw [hstep hlt] at c8
    clear hrun hE hc hrow hbel hstep
    generalize complete s = cs at *
    go_enter Try.func3, Try.ntmps3
    go_wp2_with fail
    refine (bytes5 _ _ _ _ _ hn).mono ?_
    rintro e w' ⟨rfl, rfl⟩
    go_wp2_with fail
    refine c6.mono ?_
    rintro e w' ⟨rfl, rfl⟩
    go_wp2_with fail
    refine c7.mono ?_
    rintro e w' ⟨rfl, rfl⟩
    go_wp2_with fail
    refine c8.mono ?_
    rintro e w' ⟨rfl, rfl⟩
    go_wp2_with fail
    refine c9.mono ?_
    rintro e w' ⟨rfl, rfl⟩
    go_wp2_with fail
    go_ret
    exact ⟨by simp, HB.out⟩
  · clear hrun hE hc hrow hbel hstep
    generalize complete s = cs at *
    go_enter Try.func3, Try.ntmps3
    go_wp2_with fail
    refine (bytes5 _ _ _ _ _ hn).mono ?_
    rintro e w' ⟨rfl, rfl⟩
    go_wp2_with fail
    refine c6.mono ?_
    rintro e w' ⟨rfl, rfl⟩
    go_wp2_with fail
    refine c7.mono ?_
    rintro e w' ⟨rfl, rfl⟩
    go_wp2_with fail
    refine c9.mono ?_
    rintro e w' ⟨rfl, rfl⟩
    go_wp2_with fail
    go_ret
    exact ⟨by simp, HB.out⟩

/-- Where the law answers at once. -/
theorem law3_big (a : Option Addr) (n cap : Nat) (i : Int) (w : World) (hn : ¬ n ≤ 1048576) :
    Calls Try.prog 3 #[.slice a n cap, .int .i64 i] w fun e w' => e = .returned (.bool true) ∧ Below w.heap.size w w' := by
  go_enter Try.func3, Try.ntmps3
  go_wp2_with fail
  refine (bytes5_big _ _ _ _ _ hn).mono ?_
  rintro e w' ⟨rfl, rfl⟩
  go_wp2_with fail
  go_ret
  exact ⟨rfl, Below.refl _ _⟩
theorem law3_out (a : Option Addr) (n cap : Nat) (i : Int) (w : World) (hn : n ≤ 1048576) (hi : i < 0 ∨ (n : Int) ≤ i) :
    Calls Try.prog 3 #[.slice a n cap, .int .i64 i] w fun e w' => e = .returned (.bool true) ∧ Below w.heap.size w w' := by
  rcases hi with h | h
  · go_enter Try.func3, Try.ntmps3
    go_wp2_with fail
    refine (bytes5 _ _ _ _ _ hn).mono ?_
    rintro e w' ⟨rfl, rfl⟩
    go_wp2_with fail
    go_ret
    exact ⟨rfl, Below.refl _ _⟩
  · have h0 : ¬ i < 0 := by omega
    go_enter Try.func3, Try.ntmps3
    go_wp2_with fail
    refine (bytes5 _ _ _ _ _ hn).mono ?_
    rintro e w' ⟨rfl, rfl⟩
    go_wp2_with fail
    go_ret
    exact ⟨rfl, Below.refl _ _⟩

theorem law3 (a : Option Addr) (n cap : Nat) (Z : Nat → Int) (i : Int) (w : World) (hc : ∀ j, j < n → ∃ x, a = some x ∧ w.cell? (x.add j) = some (.int .u8 (Z j))) :
    Calls Try.prog 3 #[.slice a n cap, .int .i64 i] w fun e w' => e = .returned (.bool true) ∧ Below w.heap.size w w' := by
  by_cases hn : n ≤ 1048576
  · by_cases hi : i < 0 ∨ (n : Int) ≤ i
    · exact law3_out a n cap i w hn hi
    · obtain ⟨k, rfl⟩ : ∃ k : Nat, i = (k : Int) := ⟨i.toNat, by omega⟩
      have hk : k < n := by omega
      obtain ⟨x, rfl, _⟩ := hc k hk
      exact law3_some x n cap k Z w hn hk (fun j hj => by obtain ⟨y, hy, h⟩ := hc j hj; cases hy; exact h)
  · exact law3_big a n cap i w hn

end Go.Proofs.Qxb6608710a

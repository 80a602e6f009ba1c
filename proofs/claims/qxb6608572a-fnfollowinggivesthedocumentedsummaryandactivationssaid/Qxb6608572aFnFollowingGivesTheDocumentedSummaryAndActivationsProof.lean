/- The guide's frame at function 3, over four strings, three slices of structs, two pointers, a bool and a string; the walk lies in Qxb6608572aLaw3. -/
import Derived.Test.Qxb6608572aLaw3
import Derived.Test.Qxb6608572aBytes5
import Derived.Test.Qxb6608572aBig
import Derived.Test.Qxb6608572aOpen
namespace Go.Proofs.Qxb6608572a.fnFollowingGivesTheDocumentedSummaryAndActivations
open Go.ChangeShapes Go.WideShapes Go.ChangeAt Go.RowKit
open Go.ChangeMaps (open_string shut_string)
set_option linter.unusedVariables false

theorem own : ownKnob Try.prog.godebug = none := by kernel_rfl
theorem laidOut : laidOutB Try.prog = true := by kernel_rfl

set_option maxRecDepth 100000 in
/-- Where the lists are too long the law answers at once. -/
theorem walk_big (i ins ver st : ByteArray) (la : Option Addr) (ln lc : Nat) (ba : Option Addr) (bn bc : Nat) (d dl : Option Addr) (bl : Bool) (ka : Option Addr) (kn kc : Nat) (l : ByteArray) (w : World)
    (hb : Calls Try.prog 5 #[.string i, .string ins, .string ver, .string st, .slice la ln lc, .slice ba bn bc, .pointer d, .pointer dl, .bool bl, .slice ka kn kc, .string l] w fun e w' => RetB e ∧ w = w') (h : 4096 < ln ∨ 4096 < bn ∨ 4096 < kn) :
    Calls Try.prog 3 #[.string i, .string ins, .string ver, .string st, .slice la ln lc, .slice ba bn bc, .pointer d, .pointer dl, .bool bl, .slice ka kn kc, .string l] w fun e w' => e = .returned (.bool true) ∧ Below w.heap.size w w' := by
  go_enter Try.func3, Try.ntmps3
  go_wp2_with fail
  refine hb.mono ?_
  rintro e w' ⟨⟨b, rfl⟩, rfl⟩
  clear hb
  cases b
  · go_wp2_with fail
    go_ret
    exact ⟨rfl, Below.refl _ _⟩
  go_wp2_with fail
  refine (big6 i ins ver st la ln lc ba bn bc d dl ka kn kc l w h).mono ?_
  rintro e w' ⟨rfl, rfl⟩
  go_wp2_with fail
  go_ret
  exact ⟨rfl, Below.refl _ _⟩

theorem walk (i ins ver st : ByteArray) (la : Option Addr) (ln lc : Nat) (LG : Nat → Nat → ByteArray) (ba : Option Addr) (bn bc : Nat) (BG : Nat → Nat → ByteArray) (d dl : Option Addr) (DF DLF : Nat → ByteArray) (bl : Bool) (ka : Option Addr) (kn kc : Nat) (KG : Nat → Nat → ByteArray) (l : ByteArray) (w : World)
    (hl : l.size ≤ maxLen) (hln : ln ≤ maxLen) (hbn : bn ≤ maxLen) (hkn : kn ≤ maxLen) (hL : Rws w la ln 2 LG) (hB : Rws w ba bn 9 BG) (hK : Rws w ka kn 3 KG) (hD : Ptr w d 4 DF) (hDL : Ptr w dl 3 DLF)
    (hLG : ∀ i c, (LG i c).size ≤ maxLen) (hBG : ∀ i c, (BG i c).size ≤ maxLen) (hKG : ∀ i c, (KG i c).size ≤ maxLen)
    (hla : la = none → ln = 0 ∧ lc = 0) (hba : ba = none → bn = 0 ∧ bc = 0) (hka : ka = none → kn = 0 ∧ kc = 0) :
    Calls Try.prog 3 #[.string i, .string ins, .string ver, .string st, .slice la ln lc, .slice ba bn bc, .pointer d, .pointer dl, .bool bl, .slice ka kn kc, .string l] w fun e w' => e = .returned (.bool true) ∧ Below w.heap.size w w' := by
  have hb := bytes5 i ins ver st la ln lc LG ba bn bc BG d dl DF DLF bl ka kn kc KG l w hln hbn hkn hL hB hK hD hDL
  by_cases h : 4096 < ln ∨ 4096 < bn ∨ 4096 < kn
  · exact walk_big i ins ver st la ln lc ba bn bc d dl bl ka kn kc l w hb h
  · exact law3_small i ins ver st la ln lc LG ba bn bc BG d dl DF DLF bl ka kn kc KG l w hb hl (by omega) (by omega) (by omega) hL hB hK hD hDL hLG hBG hKG hla hba hka

set_option maxRecDepth 100000 in
theorem lifted (os : Os) (started : os.Started) (H : Type) (enc : TypeId × Value → H) :
    ReturnsInHanded {} Try.checked os 3 .any (Rows.fnFollowingGivesTheDocumentedSummaryAndActivationsSpec.pre6 enc Try.prog Try.f3 Rows.fnFollowingGivesTheDocumentedSummaryAndActivationsRow.domain false) (Rows.fnFollowingGivesTheDocumentedSummaryAndActivationsSpec.post enc Try.prog Try.f3 false true false false) := by
  refine returnsInHanded_of_change (C := Try.checked) own started (by kernel_rfl) Try.func3
    (ChangeSpec.witness6 (enc := enc) (C := Try.checked) false ⟨#[], #[.string ⟨#[]⟩, .string ⟨#[]⟩, .string ⟨#[]⟩, .string ⟨#[]⟩, .slice none 0 0, .slice none 0 0, .pointer none, .pointer none, .bool false, .slice none 0 0, .string ⟨#[]⟩], []⟩ 8 (by kernel_rfl) (by kernel_rfl) (by kernel_rfl) (by kernel_rfl)) ?_
  intro W base args ds gs before hval0 hW hcnd _
  have hval : ∀ (j : Nat) t v, Try.f3.params[j]? = some t → args[j]? = some v → Value.okWide Try.prog W .any base t v := hval0
  have hW' := hW
  obtain ⟨p, q, hA0, hV, rfl, hfz, hnd⟩ := hW
  have hA : DataW.TrodAll enc Try.prog W 0 (fun _ => true) true Try.f3.params.toList args.toList ds p := hA0
  rw [Try.params3] at hA hval
  obtain ⟨v0, vs0, d0, ds0, p0, q0, hargs, rfl, rfl, h0, r0⟩ := trodAll_cons hA
  obtain ⟨v1, vs1, d1, ds1, p1, q1, rfl, rfl, rfl, h1, r1⟩ := trodAll_cons r0
  obtain ⟨v2, vs2, d2, ds2, p2, q2, rfl, rfl, rfl, h2, r2⟩ := trodAll_cons r1
  obtain ⟨v3, vs3, d3, ds3, p3, q3, rfl, rfl, rfl, h3, r3⟩ := trodAll_cons r2
  obtain ⟨v4, vs4, d4, ds4, p4, q4, rfl, rfl, rfl, h4, r4⟩ := trodAll_cons r3
  obtain ⟨v5, vs5, d5, ds5, p5, q5, rfl, rfl, rfl, h5, r5⟩ := trodAll_cons r4
  obtain ⟨v6, vs6, d6, ds6, p6, q6, rfl, rfl, rfl, h6, r6⟩ := trodAll_cons r5
  obtain ⟨v7, vs7, d7, ds7, p7, q7, rfl, rfl, rfl, h7, r7⟩ := trodAll_cons r6
  obtain ⟨v8, vs8, d8, ds8, p8, q8, rfl, rfl, rfl, h8, r8⟩ := trodAll_cons r7
  obtain ⟨v9, vs9, d9, ds9, p9, q9, rfl, rfl, rfl, h9, r9⟩ := trodAll_cons r8
  obtain ⟨v10, vs10, d10, ds10, p10, q10, rfl, rfl, rfl, h10, r10⟩ := trodAll_cons r9
  obtain ⟨rfl, rfl, rfl⟩ := trodAll_nil r10
  obtain rfl : args = #[v0, v1, v2, v3, v4, v5, v6, v7, v8, v9, v10] := by cases args; simp_all
  obtain ⟨rfl, rfl⟩ := trodVars_none hV
  obtain ⟨a0, rfl, rfl, rfl, w0⟩ := open_string Try.underlying9 (hval 0 9 v0 rfl rfl) h0
  obtain ⟨a1, rfl, rfl, rfl, w1⟩ := open_string Try.underlying9 (hval 1 9 v1 rfl rfl) h1
  obtain ⟨a2, rfl, rfl, rfl, w2⟩ := open_string Try.underlying9 (hval 2 9 v2 rfl rfl) h2
  obtain ⟨a3, rfl, rfl, rfl, w3⟩ := open_string Try.underlying9 (hval 3 9 v3 rfl rfl) h3
  obtain ⟨a10, rfl, rfl, rfl, w10⟩ := open_string Try.underlying9 (hval 10 9 v10 rfl rfl) h10
  obtain ⟨a8, rfl, rfl, rfl⟩ := open_bool Try.underlying4 (hval 8 4 v8 rfl rfl) h8
  obtain ⟨a4, len4, cap4, rfl⟩ := okWide_slice Try.underlying22 (hval 4 22 v4 rfl rfl)
  obtain ⟨a5, len5, cap5, rfl⟩ := okWide_slice Try.underlying23 (hval 5 23 v5 rfl rfl)
  obtain ⟨a9, len9, cap9, rfl⟩ := okWide_slice Try.underlying26 (hval 9 26 v9 rfl rfl)
  obtain ⟨a6, rfl⟩ := okWide_pointer Try.underlying24 (hval 6 24 v6 rfl rfl)
  obtain ⟨a7, rfl⟩ := okWide_pointer Try.underlying25 (hval 7 25 v7 rfl rfl)
  have k4 := h4
  have lt4 : ∀ x ∈ p4, x.block < W.heap.size := by obtain ⟨m, hm⟩ := k4; exact DataW.trod_lt m _ _ _ hm
  have k5 := h5
  have lt5 : ∀ x ∈ p5, x.block < W.heap.size := by obtain ⟨m, hm⟩ := k5; exact DataW.trod_lt m _ _ _ hm
  have k6 := h6
  have lt6 : ∀ x ∈ p6, x.block < W.heap.size := by obtain ⟨m, hm⟩ := k6; exact DataW.trod_lt m _ _ _ hm
  have k7 := h7
  have lt7 : ∀ x ∈ p7, x.block < W.heap.size := by obtain ⟨m, hm⟩ := k7; exact DataW.trod_lt m _ _ _ hm
  have k9 := h9
  have lt9 : ∀ x ∈ p9, x.block < W.heap.size := by obtain ⟨m, hm⟩ := k9; exact DataW.trod_lt m _ _ _ hm
  obtain ⟨G4, g4, m4, n4, l4⟩ := open_rows Try.underlying22 Try.underlying55 (by kernel_rfl) (by kernel_rfl) (by decide) h4
  obtain ⟨G5, g5, m5, n5, l5⟩ := open_rows Try.underlying23 Try.underlying57 (by kernel_rfl) (by kernel_rfl) (by decide) h5
  obtain ⟨G9, g9, m9, n9, l9⟩ := open_rows Try.underlying26 Try.underlying63 (by kernel_rfl) (by kernel_rfl) (by decide) h9
  obtain ⟨F6, f6⟩ := open_ptr9 Try.underlying24 Try.underlying59 (by kernel_rfl) (by kernel_rfl) (by decide) h6
  obtain ⟨F7, f7⟩ := open_ptr9 Try.underlying25 Try.underlying61 (by kernel_rfl) (by kernel_rfl) (by decide) h7
  clear hA0 hval0
  refine (walk a0 a1 a2 a3 a4 len4 cap4 G4 a5 len5 cap5 G5 a6 a7 F6 F7 a8 a9 len9 cap9 G9 a10 W w10 l4 l5 l9 g4 g5 g9 f6 f7 m4 m5 m9 n4 n5 n9).mono fun e W' ⟨he, bel⟩ => ?_
  subst he
  exact ⟨_, rfl, _, _, _, [], _, [], hW', trodAll_mk1 (shut_bool Try.underlying4 _), (trodAll_cons_mk (shut_string Try.underlying9 w0) (trodAll_cons_mk (shut_string Try.underlying9 w1) (trodAll_cons_mk (shut_string Try.underlying9 w2) (trodAll_cons_mk (shut_string Try.underlying9 w3) (trodAll_cons_mk (Below.trod laidOut (by kernel_rfl) (of_decide_eq_true (by kernel_rfl)) k4 bel lt4) (trodAll_cons_mk (Below.trod laidOut (by kernel_rfl) (of_decide_eq_true (by kernel_rfl)) k5 bel lt5) (trodAll_cons_mk (Below.trod laidOut (by kernel_rfl) (of_decide_eq_true (by kernel_rfl)) k6 bel lt6) (trodAll_cons_mk (Below.trod laidOut (by kernel_rfl) (of_decide_eq_true (by kernel_rfl)) k7 bel lt7) (trodAll_cons_mk (shut_bool Try.underlying4 _) (trodAll_cons_mk (Below.trod laidOut (by kernel_rfl) (of_decide_eq_true (by kernel_rfl)) k9 bel lt9) (trodAll_cons_mk (shut_string Try.underlying9 w10) trodAll_mk0))))))))))), rfl, bel.frame _, fun h => by cases h⟩

theorem over : Rows.fnFollowingGivesTheDocumentedSummaryAndActivationsRow.holds Try.pinned (OpenSpec.ofChange Rows.fnFollowingGivesTheDocumentedSummaryAndActivationsSpec) :=
  OpenClaim.holds_of_wide 3 Try.f3 rfl rfl rfl rfl rfl rfl rfl ⟨rfl, rfl, rfl, rfl, rfl⟩ rfl rfl rfl rfl rfl (by kernel_rfl) Try.func3 (by kernel_rfl)
    (of_decide_eq_true (by kernel_rfl)) (by unfold Func.isWrapper; first | (rw [if_pos (by decide +kernel)]; kernel_rfl) | (rw [if_neg (by decide +kernel)]; exact ⟨rfl, rfl⟩))
    (fun os started H enc _ => lifted os started H enc)

/-- The given statement. -/
theorem proved : Rows.FnFollowingGivesTheDocumentedSummaryAndActivationsSaid := over
end Go.Proofs.Qxb6608572a.fnFollowingGivesTheDocumentedSummaryAndActivations

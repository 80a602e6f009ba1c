import Derived.Test.Qxb6608572aSame
namespace Go.Proofs.Qxb6608572a
open Go.ChangeShapes Go.WideShapes Go.ChangeAt Go.RowKit Go.WideMaps Go.Maps

theorem lab_at (LG : Nat → Nat → ByteArray) (ln k : Nat) (h : k < ln) : ∃ v, labM LG ln (LG k 0).toList = some v := by
  cases e : lastIdx (nmOf LG) ln (LG k 0).toList with
  | none => exact absurd rfl (lastIdx_none.1 e k h)
  | some j => exact ⟨LG j 1, by simp [labM, rowsMap, e]⟩

set_option maxHeartbeats 1000000 in
set_option maxRecDepth 100000 in
theorem kept12 (lo : Option Nat) (n : Nat) (la : Option Addr) (ln lc : Nat) (LG : Nat → Nat → ByteArray) (w : World) (hln : ln ≤ 4096) (hL : Rws w la ln 2 LG) (hLG : ∀ i c, (LG i c).size ≤ maxLen)
    (hM : MpO rdS w lo n (labM LG ln)) (hno : lo.isNone = la.isNone) :
    Calls Try.prog 12 #[.map lo, .slice la ln lc] w fun e w' => e = .returned (.bool true) ∧ Below w.heap.size w w' := by
  have hMlt := hM.lt
  have hlm : ln ≤ maxLen := by unfold maxLen; omega
  have qm : ∀ w : World, (binOp .eql 29 (.map lo) (.map none)).run Try.prog w = .ok (.bool la.isNone) w := fun w => by rw [← hno]; exact run_eql_map_nil (P := Try.prog) w _ _ _ lo Try.underlying29
  have q := fun (w : World) (a : Option Addr) (n c n' c' : Nat) => Lib.run_eql_slice_nil (P := Try.prog) w _ _ a n c n' c' Try.underlying22
  have hkeys : Keys (labM LG ln) (lasts (nmOf LG) ln ln) := keys_rows _ _ _
  clear hno
  go_enter Try.func12, Try.ntmps12
  go_wp2
  clear qm q
  go_loopw [5, 6] (fun c y wr => ∃ k : Nat, k ≤ ln ∧ y = .int .i64 (k : Int) ∧ c = .int .i64 ((lasts (nmOf LG) ln k).length : Nat) ∧ Below w.heap.size w wr) (fun _ y _ => ln - (intOf y).toNat)
  case atStart => exact ⟨0, Nat.zero_le _, rfl, rfl, Below.refl _ _⟩
  case round =>
    obtain ⟨k, hk, rfl, rfl, hbel⟩ := hrel
    have hls := lasts_le (nmOf LG) ln k
    have hM' : MpO rdS wr lo n (labM LG ln) := hM.of_blocks (fun b e => hbel.block b (hMlt b e))
    by_cases hlt : k < ln
    · obtain ⟨b, off, ha, hb, hc⟩ := hL.cells hlt
      have hidx := run_row Try.underlying22 size55 ha ln lc k hlt
      have hc0 := (hbel.cell (p := ⟨b, off + k * 2 + 0, none⟩) hb).trans (hc 0 (by omega))
      simp only [Nat.add_zero] at hc0
      have hL' := hL.below hbel
      obtain ⟨v, hv⟩ := lab_at LG ln k hlt
      have c10 := labelAt la ln lc LG (LG k 0) wr hlm hL'
      rw [hv] at c10
      have c22 := last22 la ln lc LG k wr hlm hL' hlt
      have hlook : ∀ q : Nat, (Instr.lookup 29 (.map lo) (.string (LG k 0)) true).run Try.prog (wr.drewN q) = .ok (.tuple #[.string v, .bool true]) (wr.drewN q) :=
        fun q => (show MpO rdS (wr.drewN q) lo n (labM LG ln) from hM').look_yes (v := v) Try.underlying29 (zero9 _) (LG k 0) (hLG k 0) hv
      clear ha hc hv hkeys
      cases hla : isLast (nmOf LG) ln k
      · have HL : Hid ((lasts (nmOf LG) ln (k + 1)).length = (lasts (nmOf LG) ln k).length) := lasts_len_no hla
        rw [hla] at c22
        clear hla
        go_wp2_with fail
        refine c10.mono ?_
        rintro e w' ⟨rfl, rfl⟩
        go_wp2_with fail
        refine c22.mono ?_
        rintro e w' ⟨rfl, q, rfl⟩
        go_wp2_with fail
        go_roundw
        case rel => exact ⟨k + 1, by omega, by go_num, by rw [HL.out], below_drewN hbel q⟩
        case measure => simp [intOf]; omega
      · have HL : Hid ((lasts (nmOf LG) ln (k + 1)).length = (lasts (nmOf LG) ln k).length + 1) := lasts_len_yes hla
        rw [hla] at c22
        clear hla
        go_wp2_with fail
        refine c10.mono ?_
        rintro e w' ⟨rfl, rfl⟩
        go_wp2_with fail
        refine c22.mono ?_
        rintro e w' ⟨rfl, q, rfl⟩
        go_wp2_with fail
        go_roundw
        case rel => exact ⟨k + 1, by omega, by go_num, by rw [HL.out]; go_num, below_drewN hbel q⟩
        case measure => simp [intOf]; omega
    · obtain rfl : k = ln := by omega
      have hlen := hM'.len Try.underlying29 hkeys
      go_wp2
      go_ret
      exact ⟨rfl, hbel⟩

end Go.Proofs.Qxb6608572a

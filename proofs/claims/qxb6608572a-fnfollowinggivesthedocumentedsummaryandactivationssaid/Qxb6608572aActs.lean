import Derived.Test.Qxb6608572aExt
import Derived.Test.Qxb6608572aSame
namespace Go.Proofs.Qxb6608572a
open Go.ChangeShapes Go.WideShapes Go.ChangeAt Go.RowKit Go.WideMaps Go.Maps

def three (a b c : ByteArray) : Nat → Value
  | 0 => .string a
  | 1 => .string b
  | _ => .string c
def pair (a b : ByteArray) : Nat → Value
  | 0 => .string a
  | _ => .string b

theorem row3 (w : World) (a b c : ByteArray) : (w.alloc (.cells #[.string a, .string b, .string c] 63)).rowIs w.heap.size 63 3 (three a b c) :=
  World.rowIs_alloc w #[.string a, .string b, .string c] 63 (three a b c) (fun j hj => match j, hj with | 0, _ => rfl | 1, _ => rfl | 2, _ => rfl | n + 3, h => by simp at h; omega)
theorem row2 (w : World) (a b : ByteArray) : (w.alloc (.cells #[.string a, .string b] 76)).rowIs w.heap.size 76 2 (pair a b) :=
  World.rowIs_alloc w #[.string a, .string b] 76 (pair a b) (fun j hj => match j, hj with | 0, _ => rfl | 1, _ => rfl | n + 2, h => by simp at h; omega)

theorem kw_rows (w : World) (a b c u v : ByteArray) (q : Nat) :
    (((w.alloc (.cells #[.string a, .string b, .string c] 63)).alloc (.cells #[.string u, .string v] 76)).drewN q).rowIs w.heap.size 63 3 (three a b c) ∧
      (((w.alloc (.cells #[.string a, .string b, .string c] 63)).alloc (.cells #[.string u, .string v] 76)).drewN q).rowIs (w.heap.size + 1) 76 2 (pair u v) := by
  have h1 := (row3 w a b c).alloc (.cells #[.string u, .string v] 76)
  have h2 := row2 (w.alloc (.cells #[.string a, .string b, .string c] 63)) u v
  have e : (w.alloc (.cells #[.string a, .string b, .string c] 63)).heap.size = w.heap.size + 1 := by simp
  rw [e] at h2
  exact ⟨h1, h2⟩

set_option maxHeartbeats 4000000 in
set_option maxRecDepth 100000 in
theorem acts14 (ao : Option Nat) (an : Nat) (ba : Option Addr) (bn bc : Nat) (BG : Nat → Nat → ByteArray) (ka : Option Addr) (kn kc : Nat) (KG : Nat → Nat → ByteArray) (w : World)
    (hbn : bn ≤ 4096) (hkn : kn ≤ 4096) (hB : Rws w ba bn 9 BG) (hK : Rws w ka kn 3 KG) (hBG : ∀ i c, (BG i c).size ≤ maxLen) (hKG : ∀ i c, (KG i c).size ≤ maxLen) (hA : MpO rdA w ao an (aftM BG bn KG kn)) :
    Calls Try.prog 14 #[.map ao, .slice ba bn bc, .slice ka kn kc] w fun e w' => e = .returned (.bool true) ∧ Below w.heap.size w w' := by
  have hAlt := hA.lt
  have hbm : bn ≤ maxLen := by unfold maxLen; omega
  have hkm : kn ≤ maxLen := by unfold maxLen; omega
  go_enter Try.func14, Try.ntmps14
  go_wp2
  go_loopw [7, 8] (fun c y wr => ∃ k : Nat, k ≤ kn ∧ y = .int .i64 (k : Int) ∧ c = .int .i64 ((lasts (nmOf KG) kn k).length : Nat) ∧ Below w.heap.size w wr) (fun _ y _ => kn - (intOf y).toNat)
  case atStart => exact ⟨0, Nat.zero_le _, rfl, rfl, Below.refl _ _⟩
  case round =>
    obtain ⟨k, hk, rfl, rfl, hbel⟩ := hrel
    have hls := lasts_le (nmOf KG) kn k
    have hA' : MpO rdA wr ao an (aftM BG bn KG kn) := hA.of_blocks (fun b e => hbel.block b (hAlt b e))
    have hsz := hbel.size
    by_cases hlt : k < kn
    · obtain ⟨b, off, ha, hb, hc⟩ := hK.cells hlt
      have hidx := run_row Try.underlying26 size63 ha kn kc k hlt
      have hc0 := (hbel.cell (p := ⟨b, off + k * 3 + 0, none⟩) hb).trans (hc 0 (by omega))
      have hc1 := (hbel.cell (p := ⟨b, off + k * 3 + 1, none⟩) hb).trans (hc 1 (by omega))
      have hc2 := (hbel.cell (p := ⟨b, off + k * 3 + 2, none⟩) hb).trans (hc 2 (by omega))
      simp only [Nat.add_zero] at hc0
      clear ha hc
      have hB' := hB.below hbel
      have hK' := hK.below hbel
      cases hla : isLast (nmOf KG) kn k
      · obtain ⟨j, hj, hjk⟩ := not_last hlt hla
        have HL : Hid ((lasts (nmOf KG) kn (k + 1)).length = (lasts (nmOf KG) kn k).length) := lasts_len_no hla
        have hne : ((j : Int) != (k : Int)) = true := by simp; omega
        clear hla hjk
        go_wp2_with fail
        refine (knownAt_yes ka kn kc KG (KG k 0) _ hkm (hK'.below ((Below.refl _ _).alloc (Nat.le_refl _) _)) j hj).mono ?_
        rintro e w' ⟨rfl, rfl⟩
        go_wp2_with fail
        go_roundw
        case rel => exact ⟨k + 1, by omega, by go_num, by rw [HL.out], hbel.alloc hsz _⟩
        case measure => simp [intOf]; omega
      · have hlast := isLast_iff.1 hla
        have HL : Hid ((lasts (nmOf KG) kn (k + 1)).length = (lasts (nmOf KG) kn k).length + 1) := lasts_len_yes hla
        clear hla
        cases hbb : lastIdx (nmOf BG) bn (nmOf KG k) with
        | none =>
          have haft : Hid (aftM BG bn KG kn (KG k 0).toList = some ⟨KG k 1, KG k 2⟩) := aft_no hlast hbb
          go_wp2_with fail
          refine (knownAt_yes ka kn kc KG (KG k 0) _ hkm (hK'.below ((Below.refl _ _).alloc (Nat.le_refl _) _)) k hlast).mono ?_
          rintro e w' ⟨rfl, rfl⟩
          go_wp2_with fail
          refine (bundleAt_no ba bn bc BG (KG k 0) _ hbm (hB'.below (((Below.refl _ _).alloc (Nat.le_refl _) _).alloc (by simp) _)) hbb).mono ?_
          rintro e w' ⟨rfl, rfl⟩
          go_wp2
          go_quiet (fail)
          go_upto_region 12 with fail
          obtain ⟨hr1, hr2⟩ := kw_rows wr (KG k 0) (KG k 1) (KG k 2) (KG k 1) (KG k 2) nq
          have hbx : Below w.heap.size w (((wr.alloc (.cells #[.string (KG k 0), .string (KG k 1), .string (KG k 2)] 63)).alloc (.cells #[.string (KG k 1), .string (KG k 2)] 76)).drewN nq) := below_drewN ((hbel.alloc hsz _).alloc (by simp; omega) _) nq
          have hAx : MpO rdA (((wr.alloc (.cells #[.string (KG k 0), .string (KG k 1), .string (KG k 2)] 63)).alloc (.cells #[.string (KG k 1), .string (KG k 2)] 76)).drewN nq) ao an (aftM BG bn KG kn) := (hA'.alloc _).alloc _
          generalize ((wr.alloc (.cells #[.string (KG k 0), .string (KG k 1), .string (KG k 2)] 63)).alloc (.cells #[.string (KG k 1), .string (KG k 2)] 76)).drewN nq = wx at hr1 hr2 hbx hAx ⊢
          have x0 : wx.cell? ⟨wr.heap.size, 0, none⟩ = some (.string (KG k 0)) := hr1.cell (i := 0) (by omega)
          clear hidx hc0 hc1 hc2 hB' hK'
          have y0 : ∀ x, (wx.alloc x).cell? ⟨wr.heap.size + 1, 0, none⟩ = some (.string (KG k 1)) := fun x => (hr2.alloc x).cell (i := 0) (by omega)
          have y1 : ∀ x, (wx.alloc x).cell? ⟨wr.heap.size + 1, 1, none⟩ = some (.string (KG k 2)) := fun x => (hr2.alloc x).cell (i := 1) (by omega)
          have hlook : (Instr.lookup 41 (.map ao) (.string (KG k 0)) true).run Try.prog wx = .ok (.tuple #[.agg #[.string (KG k 1), .string (KG k 2)], .bool true]) wx := hAx.look_yes (v := ⟨KG k 1, KG k 2⟩) Try.underlying41 (zero76 _) (KG k 0) (hKG k 0) haft.out
          have hneq := neq76 (KG k 1) (KG k 2)
          have hgd := gd76
          go_wp2
          go_roundw
          case rel =>
            have hcn : Value.int .i64 (↑(lasts (nmOf KG) kn k).length + 1) = .int .i64 ((lasts (nmOf KG) kn (k + 1)).length : Nat) := by rw [HL.out]; rfl
            first | exact ⟨k + 1, by omega, by go_num, hcn, hbx.alloc hbx.size _⟩ | ((repeat apply Exists.intro); exact ⟨⟨k + 1, by omega, by go_num, hcn, hbx.alloc hbx.size _⟩, rfl⟩)
          case measure => simp [intOf]; omega
        | some i =>
          have hib := (lastIdx_some hbb).1
          obtain ⟨b2, off2, ha2, hb2, hc3⟩ := hB.cells hib
          have hidi := run_row Try.underlying23 size57 ha2 bn bc i hib
          have kc1 := (hbel.cell (p := ⟨b2, off2 + i * 9 + 1, none⟩) hb2).trans (hc3 1 (by omega))
          have kc3 := (hbel.cell (p := ⟨b2, off2 + i * 9 + 3, none⟩) hb2).trans (hc3 3 (by omega))
          have HC2 : Hid (w.cell? ⟨b2, off2 + i * 9 + 1, none⟩ = some (.string (BG i 1)) ∧ w.cell? ⟨b2, off2 + i * 9 + 3, none⟩ = some (.string (BG i 3))) := ⟨hc3 1 (by omega), hc3 3 (by omega)⟩
          have hb2' : b2 < wr.heap.size := by omega
          clear ha2 hc3
          cases he : (BG i 3).toList.isEmpty
          · cases hr : ((BG i 1).toList == (KG k 1).toList)
            · skip
              have haft : Hid (aftM BG bn KG kn (KG k 0).toList = some ⟨BG i 1, BG i 3⟩) := aft_other hlast hbb he hr
              go_wp2_with fail
              refine (knownAt_yes ka kn kc KG (KG k 0) _ hkm (hK'.below ((Below.refl _ _).alloc (Nat.le_refl _) _)) k hlast).mono ?_
              rintro e w' ⟨rfl, rfl⟩
              go_wp2_with fail
              refine (bundleAt_yes ba bn bc BG (KG k 0) _ hbm (hB'.below (((Below.refl _ _).alloc (Nat.le_refl _) _).alloc (by simp) _)) i hbb).mono ?_
              rintro e w' ⟨rfl, rfl⟩
              go_wp2
              go_quiet (fail)
              go_upto_region 11 with fail
              obtain ⟨hr1, hr2⟩ := kw_rows wr (KG k 0) (KG k 1) (KG k 2) (KG k 1) (KG k 2) nq
              have hbx : Below w.heap.size w (((wr.alloc (.cells #[.string (KG k 0), .string (KG k 1), .string (KG k 2)] 63)).alloc (.cells #[.string (KG k 1), .string (KG k 2)] 76)).drewN nq) := below_drewN ((hbel.alloc hsz _).alloc (by simp; omega) _) nq
              have hAx : MpO rdA (((wr.alloc (.cells #[.string (KG k 0), .string (KG k 1), .string (KG k 2)] 63)).alloc (.cells #[.string (KG k 1), .string (KG k 2)] 76)).drewN nq) ao an (aftM BG bn KG kn) := (hA'.alloc _).alloc _
              generalize ((wr.alloc (.cells #[.string (KG k 0), .string (KG k 1), .string (KG k 2)] 63)).alloc (.cells #[.string (KG k 1), .string (KG k 2)] 76)).drewN nq = wx at hr1 hr2 hbx hAx ⊢
              have x0 : wx.cell? ⟨wr.heap.size, 0, none⟩ = some (.string (KG k 0)) := hr1.cell (i := 0) (by omega)
              have bx1 : wx.cell? ⟨b2, off2 + i * 9 + 1, none⟩ = some (.string (BG i 1)) := (hbx.cell (p := ⟨b2, off2 + i * 9 + 1, none⟩) hb2).trans HC2.out.1
              have bx3 : wx.cell? ⟨b2, off2 + i * 9 + 3, none⟩ = some (.string (BG i 3)) := (hbx.cell (p := ⟨b2, off2 + i * 9 + 3, none⟩) hb2).trans HC2.out.2
              have y0 : wx.cell? ⟨wr.heap.size + 1, 0, none⟩ = some (.string (KG k 1)) := hr2.cell (i := 0) (by omega)
              have y1 : wx.cell? ⟨wr.heap.size + 1, 1, none⟩ = some (.string (KG k 2)) := hr2.cell (i := 1) (by omega)
              have z0 := hr2.frozen 0
              have z1 := hr2.frozen 1
              have hAxlt := hAx.lt
              clear hidx hc0 hc1 hc2 hB' hK'
              clear kc1 kc3
              go_region
              go_upto_region 12 with fail
              have hr1' := ((hr1.setOther (a := ⟨wr.heap.size + 1, 0, none⟩) (by simp) (.string (BG i 1))).setOther (a := ⟨wr.heap.size + 1, 1, none⟩) (by simp) (.string (BG i 3))).drew
              have hr2' := (((hr2.set 0 (.string (BG i 1))).set 1 (.string (BG i 3))).congr (g := pair (BG i 1) (BG i 3)) (fun j hj => match j, hj with | 0, _ => rfl | 1, _ => rfl | n + 2, h => by omega)).drew
              have hby := ((hbx.setCell (p := ⟨wr.heap.size + 1, 0, none⟩) (by simp; omega) (.string (BG i 1))).setCell (p := ⟨wr.heap.size + 1, 1, none⟩) (by simp; omega) (.string (BG i 3))).drew
              have hAy : MpO rdA ((wx.setCell ⟨wr.heap.size + 1, 0, none⟩ (.string (BG i 1))).setCell ⟨wr.heap.size + 1, 1, none⟩ (.string (BG i 3))).drew ao an (aftM BG bn KG kn) := hA.of_blocks (fun b e => hby.block b (hAlt b e))
              generalize ((wx.setCell ⟨wr.heap.size + 1, 0, none⟩ (.string (BG i 1))).setCell ⟨wr.heap.size + 1, 1, none⟩ (.string (BG i 3))).drew = wy at hr1' hr2' hby hAy ⊢
              clear x0 y0 y1 z0 z1 hr1 hr2 hbx hAx bx1 bx3 hAxlt
              have x0 : wy.cell? ⟨wr.heap.size, 0, none⟩ = some (.string (KG k 0)) := hr1'.cell (i := 0) (by omega)
              have y0 : ∀ x, (wy.alloc x).cell? ⟨wr.heap.size + 1, 0, none⟩ = some (.string (BG i 1)) := fun x => (hr2'.alloc x).cell (i := 0) (by omega)
              have y1 : ∀ x, (wy.alloc x).cell? ⟨wr.heap.size + 1, 1, none⟩ = some (.string (BG i 3)) := fun x => (hr2'.alloc x).cell (i := 1) (by omega)
              have hlook : (Instr.lookup 41 (.map ao) (.string (KG k 0)) true).run Try.prog wy = .ok (.tuple #[.agg #[.string (BG i 1), .string (BG i 3)], .bool true]) wy := hAy.look_yes (v := ⟨BG i 1, BG i 3⟩) Try.underlying41 (zero76 _) (KG k 0) (hKG k 0) haft.out
              have hneq := neq76 (BG i 1) (BG i 3)
              have hgd := gd76
              go_wp2
              go_roundw
              case rel =>
                have hcn : Value.int .i64 (↑(lasts (nmOf KG) kn k).length + 1) = .int .i64 ((lasts (nmOf KG) kn (k + 1)).length : Nat) := by rw [HL.out]; rfl
                first | exact ⟨k + 1, by omega, by go_num, hcn, hby.alloc hby.size _⟩ | ((repeat apply Exists.intro); exact ⟨⟨k + 1, by omega, by go_num, hcn, hby.alloc hby.size _⟩, rfl⟩)
              case measure => simp [intOf]; omega
            · skip
              have haft : Hid (aftM BG bn KG kn (KG k 0).toList = some ⟨KG k 1, KG k 2⟩) := aft_same hlast hbb he hr
              go_wp2_with fail
              refine (knownAt_yes ka kn kc KG (KG k 0) _ hkm (hK'.below ((Below.refl _ _).alloc (Nat.le_refl _) _)) k hlast).mono ?_
              rintro e w' ⟨rfl, rfl⟩
              go_wp2_with fail
              refine (bundleAt_yes ba bn bc BG (KG k 0) _ hbm (hB'.below (((Below.refl _ _).alloc (Nat.le_refl _) _).alloc (by simp) _)) i hbb).mono ?_
              rintro e w' ⟨rfl, rfl⟩
              go_wp2
              go_quiet (fail)
              go_upto_region 12 with fail
              obtain ⟨hr1, hr2⟩ := kw_rows wr (KG k 0) (KG k 1) (KG k 2) (KG k 1) (KG k 2) nq
              have hbx : Below w.heap.size w (((wr.alloc (.cells #[.string (KG k 0), .string (KG k 1), .string (KG k 2)] 63)).alloc (.cells #[.string (KG k 1), .string (KG k 2)] 76)).drewN nq) := below_drewN ((hbel.alloc hsz _).alloc (by simp; omega) _) nq
              have hAx : MpO rdA (((wr.alloc (.cells #[.string (KG k 0), .string (KG k 1), .string (KG k 2)] 63)).alloc (.cells #[.string (KG k 1), .string (KG k 2)] 76)).drewN nq) ao an (aftM BG bn KG kn) := (hA'.alloc _).alloc _
              generalize ((wr.alloc (.cells #[.string (KG k 0), .string (KG k 1), .string (KG k 2)] 63)).alloc (.cells #[.string (KG k 1), .string (KG k 2)] 76)).drewN nq = wx at hr1 hr2 hbx hAx ⊢
              have x0 : wx.cell? ⟨wr.heap.size, 0, none⟩ = some (.string (KG k 0)) := hr1.cell (i := 0) (by omega)
              clear hidx hc0 hc1 hc2 hB' hK'
              have y0 : ∀ x, (wx.alloc x).cell? ⟨wr.heap.size + 1, 0, none⟩ = some (.string (KG k 1)) := fun x => (hr2.alloc x).cell (i := 0) (by omega)
              have y1 : ∀ x, (wx.alloc x).cell? ⟨wr.heap.size + 1, 1, none⟩ = some (.string (KG k 2)) := fun x => (hr2.alloc x).cell (i := 1) (by omega)
              have hlook : (Instr.lookup 41 (.map ao) (.string (KG k 0)) true).run Try.prog wx = .ok (.tuple #[.agg #[.string (KG k 1), .string (KG k 2)], .bool true]) wx := hAx.look_yes (v := ⟨KG k 1, KG k 2⟩) Try.underlying41 (zero76 _) (KG k 0) (hKG k 0) haft.out
              have hneq := neq76 (KG k 1) (KG k 2)
              have hgd := gd76
              go_wp2
              go_roundw
              case rel =>
                have hcn : Value.int .i64 (↑(lasts (nmOf KG) kn k).length + 1) = .int .i64 ((lasts (nmOf KG) kn (k + 1)).length : Nat) := by rw [HL.out]; rfl
                first | exact ⟨k + 1, by omega, by go_num, hcn, hbx.alloc hbx.size _⟩ | ((repeat apply Exists.intro); exact ⟨⟨k + 1, by omega, by go_num, hcn, hbx.alloc hbx.size _⟩, rfl⟩)
              case measure => simp [intOf]; omega
          · skip
            have haft : Hid (aftM BG bn KG kn (KG k 0).toList = some ⟨KG k 1, KG k 2⟩) := aft_empty hlast hbb he
            go_wp2_with fail
            refine (knownAt_yes ka kn kc KG (KG k 0) _ hkm (hK'.below ((Below.refl _ _).alloc (Nat.le_refl _) _)) k hlast).mono ?_
            rintro e w' ⟨rfl, rfl⟩
            go_wp2_with fail
            refine (bundleAt_yes ba bn bc BG (KG k 0) _ hbm (hB'.below (((Below.refl _ _).alloc (Nat.le_refl _) _).alloc (by simp) _)) i hbb).mono ?_
            rintro e w' ⟨rfl, rfl⟩
            go_wp2
            go_quiet (fail)
            go_upto_region 12 with fail
            obtain ⟨hr1, hr2⟩ := kw_rows wr (KG k 0) (KG k 1) (KG k 2) (KG k 1) (KG k 2) nq
            have hbx : Below w.heap.size w (((wr.alloc (.cells #[.string (KG k 0), .string (KG k 1), .string (KG k 2)] 63)).alloc (.cells #[.string (KG k 1), .string (KG k 2)] 76)).drewN nq) := below_drewN ((hbel.alloc hsz _).alloc (by simp; omega) _) nq
            have hAx : MpO rdA (((wr.alloc (.cells #[.string (KG k 0), .string (KG k 1), .string (KG k 2)] 63)).alloc (.cells #[.string (KG k 1), .string (KG k 2)] 76)).drewN nq) ao an (aftM BG bn KG kn) := (hA'.alloc _).alloc _
            generalize ((wr.alloc (.cells #[.string (KG k 0), .string (KG k 1), .string (KG k 2)] 63)).alloc (.cells #[.string (KG k 1), .string (KG k 2)] 76)).drewN nq = wx at hr1 hr2 hbx hAx ⊢
            have x0 : wx.cell? ⟨wr.heap.size, 0, none⟩ = some (.string (KG k 0)) := hr1.cell (i := 0) (by omega)
            clear hidx hc0 hc1 hc2 hB' hK'
            have y0 : ∀ x, (wx.alloc x).cell? ⟨wr.heap.size + 1, 0, none⟩ = some (.string (KG k 1)) := fun x => (hr2.alloc x).cell (i := 0) (by omega)
            have y1 : ∀ x, (wx.alloc x).cell? ⟨wr.heap.size + 1, 1, none⟩ = some (.string (KG k 2)) := fun x => (hr2.alloc x).cell (i := 1) (by omega)
            have hlook : (Instr.lookup 41 (.map ao) (.string (KG k 0)) true).run Try.prog wx = .ok (.tuple #[.agg #[.string (KG k 1), .string (KG k 2)], .bool true]) wx := hAx.look_yes (v := ⟨KG k 1, KG k 2⟩) Try.underlying41 (zero76 _) (KG k 0) (hKG k 0) haft.out
            have hneq := neq76 (KG k 1) (KG k 2)
            have hgd := gd76
            go_wp2
            go_roundw
            case rel =>
              have hcn : Value.int .i64 (↑(lasts (nmOf KG) kn k).length + 1) = .int .i64 ((lasts (nmOf KG) kn (k + 1)).length : Nat) := by rw [HL.out]; rfl
              first | exact ⟨k + 1, by omega, by go_num, hcn, hbx.alloc hbx.size _⟩ | ((repeat apply Exists.intro); exact ⟨⟨k + 1, by omega, by go_num, hcn, hbx.alloc hbx.size _⟩, rfl⟩)
            case measure => simp [intOf]; omega
    · have hkk : kn = k := by omega
      subst hkk
      clear hlt hA'
      go_wp2
      go_loopw [7, 14] (fun c y wr => ∃ k : Nat, k ≤ bn ∧ y = .int .i64 (k : Int) ∧ c = .int .i64 (((lasts (nmOf KG) kn kn).length + (exts BG bn KG kn k).length : Nat) : Int) ∧ Below w.heap.size w wr) (fun _ y _ => bn - (intOf y).toNat)
      case atStart => exact ⟨0, Nat.zero_le _, rfl, rfl, hbel⟩
      case round =>
        clear hbel hsz hk
        obtain ⟨k, hk, rfl, rfl, hbel⟩ := hrel
        have hes := exts_le (BG := BG) (bn := bn) (KG := KG) (kn := kn) k
        have hA' : MpO rdA wr ao an (aftM BG bn KG kn) := hA.of_blocks (fun b e => hbel.block b (hAlt b e))
        have hsz := hbel.size
        by_cases hlt : k < bn
        · obtain ⟨b, off, ha, hb, hc⟩ := hB.cells hlt
          have hidx := run_row Try.underlying23 size57 ha bn bc k hlt
          obtain ⟨hc0, hc1, hc2, hc3, hc4, hc5, hc6, hc7, hc8⟩ := nine hbel hb hc
          clear ha hc
          have hB' := hB.below hbel
          have hK' := hK.below hbel
          have hb' : b < wr.heap.size := by omega
          cases hla : isLast (nmOf BG) bn k
          · obtain ⟨j, hj, hjk⟩ := not_last hlt hla
            have HL : Hid ((exts BG bn KG kn (k + 1)).length = (exts BG bn KG kn k).length) := exts_len_no (by simp [extB, hla])
            have hne : ((j : Int) != (k : Int)) = true := by simp; omega
            clear hla hjk
            go_wp2_with fail
            refine (bundleAt_yes ba bn bc BG (BG k 0) _ hbm (hB'.below ((Below.refl _ _).alloc (Nat.le_refl _) _)) j hj).mono ?_
            rintro e w' ⟨rfl, rfl⟩
            go_wp2_with fail
            go_roundw
            case rel => exact ⟨k + 1, by omega, by go_num, by rw [HL.out]; rfl, hbel.alloc hsz _⟩
            case measure => simp [intOf]; omega
          · have hlast := isLast_iff.1 hla
            cases he : (BG k 3).toList.isEmpty
            · cases hkk : lastIdx (nmOf KG) kn (nmOf BG k) with
              | none =>
                have HL : Hid ((exts BG bn KG kn (k + 1)).length = (exts BG bn KG kn k).length + 1) := exts_len_yes (by simp only [extB, hla, he, hkk]; rfl)
                have hlook : ∀ x y, (Instr.lookup 41 (.map ao) (.string (BG k 0)) true).run Try.prog ((wr.alloc x).alloc y) = .ok (.tuple #[.agg #[.string (BG k 1), .string (BG k 3)], .bool true]) ((wr.alloc x).alloc y) :=
                  fun x y => ((hA'.alloc x).alloc y).look_yes (v := ⟨BG k 1, BG k 3⟩) Try.underlying41 (zero76 _) (BG k 0) (hBG k 0) (aft_new hkk hlast he)
                have hneq := neq76 (BG k 1) (BG k 3)
                have hgd := gd76
                clear hla
                go_wp2_with fail
                refine (bundleAt_yes ba bn bc BG (BG k 0) _ hbm (hB'.below ((Below.refl _ _).alloc (Nat.le_refl _) _)) k hlast).mono ?_
                rintro e w' ⟨rfl, rfl⟩
                go_wp2_with fail
                refine (knownAt_no ka kn kc KG (BG k 0) _ hkm (hK'.below ((Below.refl _ _).alloc (Nat.le_refl _) _)) hkk).mono ?_
                rintro e w' ⟨rfl, rfl⟩
                go_wp2
                go_roundw
                case rel => exact ⟨k + 1, by omega, by go_num, by rw [HL.out]; go_num, ((hbel.alloc hsz _).alloc (by simp; omega) _).alloc (by simp; omega) _⟩
                case measure => simp [intOf]; omega
              | some j =>
                have HL : Hid ((exts BG bn KG kn (k + 1)).length = (exts BG bn KG kn k).length) := exts_len_no (by simp only [extB, hla, he, hkk]; rfl)
                clear hla
                go_wp2_with fail
                refine (bundleAt_yes ba bn bc BG (BG k 0) _ hbm (hB'.below ((Below.refl _ _).alloc (Nat.le_refl _) _)) k hlast).mono ?_
                rintro e w' ⟨rfl, rfl⟩
                go_wp2_with fail
                refine (knownAt_yes ka kn kc KG (BG k 0) _ hkm (hK'.below ((Below.refl _ _).alloc (Nat.le_refl _) _)) j hkk).mono ?_
                rintro e w' ⟨rfl, rfl⟩
                go_wp2
                go_roundw
                case rel => exact ⟨k + 1, by omega, by go_num, by rw [HL.out]; rfl, hbel.alloc hsz _⟩
                case measure => simp [intOf]; omega
            · have HL : Hid ((exts BG bn KG kn (k + 1)).length = (exts BG bn KG kn k).length) := exts_len_no (by simp only [extB, hla, he]; rfl)
              clear hla
              go_wp2_with fail
              refine (bundleAt_yes ba bn bc BG (BG k 0) _ hbm (hB'.below ((Below.refl _ _).alloc (Nat.le_refl _) _)) k hlast).mono ?_
              rintro e w' ⟨rfl, rfl⟩
              go_wp2
              go_roundw
              case rel => exact ⟨k + 1, by omega, by go_num, by rw [HL.out]; rfl, hbel.alloc hsz _⟩
              case measure => simp [intOf]; omega
        · have hkk : bn = k := by omega
          subst hkk
          have hlen := hA'.len Try.underlying41 (keys_aft (BG := BG) (bn := bn) (KG := KG) (kn := kn))
          rw [List.length_append] at hlen
          go_wp2
          go_ret
          exact ⟨rfl, hbel⟩

end Go.Proofs.Qxb6608572a

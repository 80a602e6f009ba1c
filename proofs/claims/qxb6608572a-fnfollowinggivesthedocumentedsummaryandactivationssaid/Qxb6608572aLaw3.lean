import Derived.Test.Qxb6608572aLaw4
import Derived.Test.Qxb6608572aKept
import Derived.Test.Qxb6608572aActs
namespace Go.Proofs.Qxb6608572a
open Go.ChangeShapes Go.WideShapes Go.ChangeAt Go.RowKit Go.WideMaps Go.Maps

set_option maxHeartbeats 4000000 in
set_option maxRecDepth 100000 in
theorem law3_small (i ins ver st : ByteArray) (la : Option Addr) (ln lc : Nat) (LG : Nat → Nat → ByteArray) (ba : Option Addr) (bn bc : Nat) (BG : Nat → Nat → ByteArray) (d dl : Option Addr) (DF DLF : Nat → ByteArray) (bl : Bool) (ka : Option Addr) (kn kc : Nat) (KG : Nat → Nat → ByteArray) (l : ByteArray) (w : World)
    (h5 : Calls Try.prog 5 #[.string i, .string ins, .string ver, .string st, .slice la ln lc, .slice ba bn bc, .pointer d, .pointer dl, .bool bl, .slice ka kn kc, .string l] w fun e w' => RetB e ∧ w = w')
    (hl : l.size ≤ maxLen) (hln : ln ≤ 4096) (hbn : bn ≤ 4096) (hkn : kn ≤ 4096) (hL : Rws w la ln 2 LG) (hB : Rws w ba bn 9 BG) (hK : Rws w ka kn 3 KG) (hD : Ptr w d 4 DF) (hDL : Ptr w dl 3 DLF)
    (hLG : ∀ i c, (LG i c).size ≤ maxLen) (hBG : ∀ i c, (BG i c).size ≤ maxLen) (hKG : ∀ i c, (KG i c).size ≤ maxLen)
    (hla : la = none → ln = 0 ∧ lc = 0) (hba : ba = none → bn = 0 ∧ bc = 0) (hka : ka = none → kn = 0 ∧ kc = 0) :
    Calls Try.prog 3 #[.string i, .string ins, .string ver, .string st, .slice la ln lc, .slice ba bn bc, .pointer d, .pointer dl, .bool bl, .slice ka kn kc, .string l] w fun e w' => e = .returned (.bool true) ∧ Below w.heap.size w w' := by
  go_enter Try.func3, Try.ntmps3
  go_wp2_with fail
  refine h5.mono ?_
  rintro e w' ⟨⟨b, rfl⟩, rfl⟩
  clear h5
  cases b
  · go_wp2_with fail
    go_ret
    exact ⟨rfl, Below.refl _ _⟩
  go_wp2_with fail
  refine (small6 i ins ver st la ln lc LG ba bn bc BG d dl DF DLF ka kn kc KG l w hln hbn hkn hL hB hK hD hDL).mono ?_
  rintro e w1 ⟨⟨b, rfl⟩, hb1⟩
  cases b
  rotate_left
  · go_wp2_with fail
    go_ret
    exact ⟨rfl, hb1⟩
  have HL : Hid (Rws w la ln 2 LG) := hL
  have HB : Hid (Rws w ba bn 9 BG) := hB
  have HK : Hid (Rws w ka kn 3 KG) := hK
  have hL1 := hL.below hb1
  have hB1 := hB.below hb1
  have hD1 := hD.below hb1
  have hDL1 := hDL.below hb1
  clear hL hB hK hD hDL
  go_wp2_with fail
  refine (sum7 i ins ver st la ln lc LG ba bn bc BG d dl DF DLF bl w1 hln hbn hL1 hB1 hD1 hDL1 hLG hBG hla hba).mono ?_
  rintro e w2 ⟨lo, bo, d', dl', rfl, hLm, hBm, hno, hb2⟩
  have hb2' := bel_on hb1 hb2
  clear hb1 hb2 hL1 hB1 hD1 hDL1
  go_upto_region 6 with fail
  have hr3 := row_new w2 (sval i ins ver lo st bo d' dl' bl) #[.string i, .string ins, .string ver, .map lo, .int .u64 0, .int .i64 0, .pointer none, .string st, .map bo, .pointer d', .pointer dl', .bool bl] rfl (all12 rfl rfl rfl rfl rfl rfl rfl rfl rfl rfl rfl rfl)
  have hb3 : Below w2.heap.size w2 (w2.alloc (.cells #[.string i, .string ins, .string ver, .map lo, .int .u64 0, .int .i64 0, .pointer none, .string st, .map bo, .pointer d', .pointer dl', .bool bl] 38)) := (Below.refl _ _).alloc (Nat.le_refl _) _
  generalize w2.alloc (.cells #[.string i, .string ins, .string ver, .map lo, .int .u64 0, .int .i64 0, .pointer none, .string st, .map bo, .pointer d', .pointer dl', .bool bl] 38) = w3 at hr3 hb3 ⊢
  generalize w2.heap.size = b3 at hr3 ⊢
  have hLm3 : MpO rdS w3 lo ln (labM LG ln) := hLm.kept (grown_below hb3) (fun b _ => by simp)
  have hBm3 : MpO rdB w3 bo bn (bunM BG bn) := hBm.kept (grown_below hb3) (fun b _ => by simp)
  have hb3' := bel_on hb2' hb3
  clear hLm hBm hb2' hb3
  have hd3 : Below w3.heap.size w3 w3.drew := (Below.refl _ _).drew
  have hK3 : Rws w3.drew ka kn 3 KG := HK.out.below (bel_on hb3' hd3)
  have hr3d := row_below hr3 hd3
  have hb3lt := hr3.lt
  have hd3x : ∀ x, Below w3.heap.size w3 (w3.alloc x).drew := fun x => ((Below.refl _ _).alloc (Nat.le_refl _) _).drew
  have hK3x : ∀ x, Rws (w3.alloc x).drew ka kn 3 KG := fun x => HK.out.below (bel_on hb3' (hd3x x))
  go_cut [24, 25] (fun p m wx => ∃ nb af b6, p = .pointer (some ⟨b6, 0, none⟩) ∧ m = .map (some af) ∧ wx.rowIs b6 38 12 (sval (idOf (labM LG ln) l) ((labM LG ln idStr.toList).getD ByteArray.empty) ver lo st (some nb) d' dl' bl) ∧
    Mp rdB wx nb bn (gotM BG bn KG kn) ∧ Mp rdA wx af (kn + bn) (aftM BG bn KG kn) ∧ Below w3.heap.size w3 wx ∧ wx.rowIs b3 38 12 (sval i ins ver lo st bo d' dl' bl))
  case first =>
    go_region_held3 (fun w' => w'.cell? ⟨b3, 0, none⟩ = some (.string i) ∧ w'.cell? ⟨b3, 1, none⟩ = some (.string ins) ∧ w'.cell? ⟨b3, 2, none⟩ = some (.string ver) ∧ w'.cell? ⟨b3, 3, none⟩ = some (.map lo) ∧ w'.cell? ⟨b3, 4, none⟩ = some (.int .u64 0) ∧ w'.cell? ⟨b3, 5, none⟩ = some (.int .i64 0) ∧ w'.cell? ⟨b3, 6, none⟩ = some (.pointer none) ∧ w'.cell? ⟨b3, 7, none⟩ = some (.string st) ∧ w'.cell? ⟨b3, 8, none⟩ = some (.map bo) ∧ w'.cell? ⟨b3, 9, none⟩ = some (.pointer d') ∧ w'.cell? ⟨b3, 10, none⟩ = some (.pointer dl') ∧ w'.cell? ⟨b3, 11, none⟩ = some (.bool bl))
      (first | with_reducible exact twelve' hr3d | with_reducible exact twelve' hr4 | with_reducible exact twelve' hr5 | with_reducible exact twelve' (hr3.alloc _).drew | with_reducible exact twelve' (hr4.alloc _) | with_reducible exact twelve' (hr5.alloc _) | exact twelve' hr6 | go_keep)
      (first
        | (go_at_call 9; refine (known9' ka kn kc KG _ hkn (by first | with_reducible exact hK3 | exact hK3x _) hKG hka).mono ?_; rintro e w4 ⟨ko, rfl, hKm4, hb4⟩; (first | (have hb4' : Below w3.heap.size w3 w4 := by with_reducible exact bel_on hd3 hb4) | (have hb4' : Below w3.heap.size w3 w4 := bel_on (hd3x _) hb4; have hzC : w4.rowIs w3.heap.size 38 12 zsum := row_below (row_zero w3).drew hb4)); have hr4 := row_below hr3 hb4'; have hLm4 := hLm3.kept (grown_below hb4') (fun b _ => by simp); have hBm4 := hBm3.kept (grown_below hb4') (fun b _ => by simp); have hs4 := hb4'.size)
        | (go_at_call 8; refine (fol8 i ins ver lo st bo d' dl' bl ko l ln bn kn (labM LG ln) (bunM BG bn) (knoM KG kn) _ hl (by omega) (by first | with_reducible exact hLm4 | exact hLm4.alloc _) (by first | with_reducible exact hBm4 | exact hBm4.alloc _) (by first | with_reducible exact hKm4 | exact hKm4.alloc _)).mono ?_; rintro e w5 ⟨nb, af, rfl, hN5, hA5, hb5, hnb, haf⟩; (first | (have hb5' : Below w3.heap.size w3 w5 := by with_reducible exact bel_on hb4' hb5) | (have hb5' : Below w3.heap.size w3 w5 := bel_on (hb4'.alloc hb4'.size _) hb5; have hz5 : w5.rowIs w4.heap.size 38 12 zsum := row_below (row_zero w4) hb5)); have hr5 := row_below hr3 hb5'; (try (have hz5 := row_below hzC hb5; have hz5s : w3.heap.size < w4.heap.size := hzC.lt; have hr6 : (set12 w5 w3.heap.size (sval (idOf (labM LG ln) l) ((labM LG ln idStr.toList).getD ByteArray.empty) ver lo st (some nb) d' dl' bl)).rowIs b3 38 12 (sval i ins ver lo st bo d' dl' bl) := hr5.of_block (set12_block _ _ _ _ (by omega)); obtain ⟨z0, z1, z2, z3, z4, z5, z6, z7, z8, z9, z10, z11⟩ := twelve' hz5; obtain ⟨y0, y1, y2, y3, y4, y5, y6, y7, y8, y9, y10, y11⟩ := unfrozen hz5)); (try (have hr6 : (set12 w5 w4.heap.size (sval (idOf (labM LG ln) l) ((labM LG ln idStr.toList).getD ByteArray.empty) ver lo st (some nb) d' dl' bl)).rowIs b3 38 12 (sval i ins ver lo st bo d' dl' bl) := hr5.of_block (set12_block _ _ _ _ (by omega)); have hzB : w5.rowIs w4.heap.size 38 12 zsum := hz5; obtain ⟨z0, z1, z2, z3, z4, z5, z6, z7, z8, z9, z10, z11⟩ := twelve' hz5; obtain ⟨y0, y1, y2, y3, y4, y5, y6, y7, y8, y9, y10, y11⟩ := unfrozen hz5))))
    · go_wp2_with fail
      go_meet
      case rel => exact ⟨nb, af, w5.heap.size, rfl, rfl, row_new w5 _ _ rfl (all12 rfl rfl rfl rfl rfl rfl rfl rfl rfl rfl rfl rfl), hN5.alloc _, hA5.alloc _, hb5'.alloc hb5'.size _, hr5.alloc _⟩
    · go_wp2_with fail
      go_meet
      case rel =>
        have hS := stored (sval (idOf (labM LG ln) l) ((labM LG ln idStr.toList).getD ByteArray.empty) ver lo st (some nb) d' dl' bl) hzB hs4 hb5' hN5 hA5 (by first | omega | (simp at hnb; omega)) (by first | omega | (simp at haf; omega))
        exact ⟨nb, af, w4.heap.size, rfl, rfl, hS.1, hS.2.1, hS.2.2.1, hS.2.2.2, hr6⟩
    · go_wp2_with fail
      go_meet
      case rel =>
        have hS := stored (sval (idOf (labM LG ln) l) ((labM LG ln idStr.toList).getD ByteArray.empty) ver lo st (some nb) d' dl' bl) hz5 (Nat.le_refl _) hb5' hN5 hA5 (by omega) (by omega)
        exact ⟨nb, af, w3.heap.size, rfl, rfl, hS.1, hS.2.1, hS.2.2.1, hS.2.2.2, hr6⟩
  case rest =>
    obtain ⟨nb, af, b6, rfl, rfl, hr6, hN6, hA6, hb6, hr6s⟩ := hcut
    have hLm6 := hLm3.kept (grown_below hb6) (fun b _ => by simp)
    have hb6' := bel_on hb3' hb6
    clear hr3 hLm3 hBm3 hd3 hK3 hr3d hb3lt hd3x hK3x hb3' hb6
    have hd6 : Below wc.heap.size wc wc.drew := (Below.refl _ _).drew
    have hbd := bel_on hb6' hd6
    have hL6 : Rws wc la ln 2 LG := HL.out.below hb6'
    have hLd : Rws wc.drew la ln 2 LG := HL.out.below hbd
    have hBd : Rws wc.drew ba bn 9 BG := HB.out.below hbd
    have hKd : Rws wc.drew ka kn 3 KG := HK.out.below hbd
    have hLmd := hLm6.kept (grown_below hd6) (fun b _ => by simp)
    have hNd : Mp rdB wc.drew nb bn (gotM BG bn KG kn) := hN6.drew
    have hAd : Mp rdA wc.drew af (kn + bn) (aftM BG bn KG kn) := hA6.drew
    have hlm : ln ≤ maxLen := by unfold maxLen; omega
    have c10 : Calls Try.prog 10 #[.slice la ln lc, .string ⟨#[105, 100]⟩] wc fun e w' => e = .returned (.tuple #[.string ((labM LG ln idStr.toList).getD ByteArray.empty), .bool (labM LG ln idStr.toList).isSome]) ∧ wc = w' := labelAt la ln lc LG idStr wc hlm hL6
    have c11 := want11 la ln lc LG l wc.drew hlm hLd
    generalize (labM LG ln idStr.toList).getD ByteArray.empty = INS at *
    generalize (labM LG ln idStr.toList).isSome = ISS at *
    generalize idOf (labM LG ln) l = ID at *
    have hrd := row_below hr6 hd6
    have hrs := row_below hr6s hd6
    clear hN6 hA6 hLm6 hb6' hL6 hLd
    go_wp2_with fail
    refine c10.mono ?_
    rintro e w' ⟨rfl, rfl⟩
    clear c10
    go_upto_region 8 with fail
    go_region_held3 (fun w' => w'.cell? ⟨b6, 0, none⟩ = some (.string ID) ∧ w'.cell? ⟨b6, 1, none⟩ = some (.string INS))
      (exact ⟨hrd.cell (i := 0) (by omega), hrd.cell (i := 1) (by omega)⟩)
      (first
        | (go_at_call 11; refine c11.mono ?_; rintro e w' ⟨rfl, rfl⟩))
    obtain ⟨s0, s1, s2, s3, s4, s5, s6, s7, s8, s9, s10, s11⟩ := twelve' hr6
    obtain ⟨q0, q1, q2, q3, q4, q5, q6, q7, q8, q9, q10, q11⟩ := twelve' hr6s
    have p1 := neqPtr 35 71 Try.underlying35 (by kernel_rfl) d'
    have p2 := neqPtr 36 73 Try.underlying36 (by kernel_rfl) dl'
    have t1 := neq33
    have t2 := gd33
    go_wp2_with fail
    refine (kept12 lo ln la ln lc LG wc.drew hln (HL.out.below hbd) hLG hLmd hno).mono ?_
    rintro e w7 ⟨rfl, hb7⟩
    have hr7 := row_below hrd hb7
    have hb7' := bel_on hbd hb7
    have hN7 := hNd.kept (grown_below hb7) (by simp)
    have hA7 := hAd.kept (grown_below hb7) (by simp)
    have t8 : w7.cell? ⟨b6, 8, none⟩ = some (.map (some nb)) := hr7.cell (i := 8) (by omega)
    clear hd6 hbd hBd hKd hLmd hNd hAd hrd hrs hb7 hr6 hr6s c11 s0 s1 s2 s3 s4 s5 s6 s7 s8 s9 s10 s11 q0 q1 q2 q3 q4 q5 q6 q7 q8 q9 q10 q11 p1 p2 t1 t2 hr7
    go_wp2_with fail
    refine (rule13 (some nb) bn ba bn bc BG ka kn kc KG w7 hbn hkn (HB.out.below hb7') (HK.out.below hb7') hBG hN7.toO).mono ?_
    rintro e w8 ⟨rfl, hb8⟩
    have hb8' := bel_on hb7' hb8
    have hA8 := hA7.kept (grown_below hb8) (by simp)
    clear hN7 hA7 t8 hb8 hb7'
    go_wp2_with fail
    refine (acts14 (some af) (kn + bn) ba bn bc BG ka kn kc KG w8 hbn hkn (HB.out.below hb8') (HK.out.below hb8') hBG hKG hA8.toO).mono ?_
    rintro e w9 ⟨rfl, hb9⟩
    have hb9' := bel_on hb8' hb9
    go_wp2_with fail
    go_ret
    exact ⟨rfl, hb9'⟩

end Go.Proofs.Qxb6608572a

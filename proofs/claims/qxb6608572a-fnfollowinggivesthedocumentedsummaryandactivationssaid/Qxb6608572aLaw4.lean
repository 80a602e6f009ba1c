import Derived.Test.Qxb6608572aIdem
import Derived.Test.Qxb6608572aSame
import Derived.Test.Qxb6608572aBig
import Derived.Test.Qxb6608572aFol
import Derived.Test.Qxb6608572aMake
import Derived.Deep.RegionHeld3
namespace Go.Proofs.Qxb6608572a
open Go.ChangeShapes Go.WideShapes Go.ChangeAt Go.RowKit Go.WideMaps Go.Maps

theorem Ptr.below {w w' : World} {a : Option Addr} {wd : Nat} {F : Nat → ByteArray} (h : Ptr w a wd F) (hb : Below w.heap.size w w') : Ptr w' a wd F := by
  rcases h with h | ⟨b, off, ha, hlt, hc⟩
  · exact .inl h
  · exact .inr ⟨b, off, ha, Nat.lt_of_lt_of_le hlt hb.size, fun c hcw => (hb.cell (p := ⟨b, off + c, none⟩) hlt).trans (hc c hcw)⟩

theorem bel_on {a b c : World} (h : Below a.heap.size a b) (k : Below b.heap.size b c) : Below a.heap.size a c := h.trans (k.mono h.size)

/-- The twelve cells of a Summary's row. -/
theorem twelve {w : World} {b : Nat} {v : Nat → Value} (h : w.rowIs b 38 12 v) :
    w.cell? ⟨b, 0, none⟩ = some (v 0) ∧ w.cell? ⟨b, 1, none⟩ = some (v 1) ∧ w.cell? ⟨b, 2, none⟩ = some (v 2) ∧ w.cell? ⟨b, 3, none⟩ = some (v 3) ∧ w.cell? ⟨b, 4, none⟩ = some (v 4) ∧ w.cell? ⟨b, 5, none⟩ = some (v 5) ∧ w.cell? ⟨b, 6, none⟩ = some (v 6) ∧ w.cell? ⟨b, 7, none⟩ = some (v 7) ∧ w.cell? ⟨b, 8, none⟩ = some (v 8) ∧ w.cell? ⟨b, 9, none⟩ = some (v 9) ∧ w.cell? ⟨b, 10, none⟩ = some (v 10) ∧ w.cell? ⟨b, 11, none⟩ = some (v 11) :=
  ⟨h.cell (by omega), h.cell (by omega), h.cell (by omega), h.cell (by omega), h.cell (by omega), h.cell (by omega), h.cell (by omega), h.cell (by omega), h.cell (by omega), h.cell (by omega), h.cell (by omega), h.cell (by omega)⟩

theorem twelve' {w : World} {b : Nat} {i ins ver st : ByteArray} {lo bo : Option Nat} {d dl : Option Addr} {bl : Bool} (h : w.rowIs b 38 12 (sval i ins ver lo st bo d dl bl)) :
    w.cell? ⟨b, 0, none⟩ = some (.string i) ∧ w.cell? ⟨b, 1, none⟩ = some (.string ins) ∧ w.cell? ⟨b, 2, none⟩ = some (.string ver) ∧ w.cell? ⟨b, 3, none⟩ = some (.map lo) ∧ w.cell? ⟨b, 4, none⟩ = some (.int .u64 0) ∧ w.cell? ⟨b, 5, none⟩ = some (.int .i64 0) ∧ w.cell? ⟨b, 6, none⟩ = some (.pointer none) ∧ w.cell? ⟨b, 7, none⟩ = some (.string st) ∧ w.cell? ⟨b, 8, none⟩ = some (.map bo) ∧ w.cell? ⟨b, 9, none⟩ = some (.pointer d) ∧ w.cell? ⟨b, 10, none⟩ = some (.pointer dl) ∧ w.cell? ⟨b, 11, none⟩ = some (.bool bl) := twelve h

theorem known9' (a : Option Addr) (len cap : Nat) (G : Nat → Nat → ByteArray) (w : World) (hm : len ≤ 4096) (hr : Rws w a len 3 G) (hG : ∀ i c, (G i c).size ≤ maxLen) (hn : a = none → len = 0 ∧ cap = 0) :
    Calls Try.prog 9 #[.slice a len cap] w fun e w' => ∃ ko, e = .returned (.map ko) ∧ MpO rdA w' ko len (knoM G len) ∧ Below w.heap.size w w' :=
  (known9 a len cap G w hm hr hG hn).mono fun _ _ ⟨h1, h2, h3⟩ => ⟨_, h1, h2, h3⟩

theorem row_below {w w' : World} {b : Nat} {v : Nat → Value} (h : w.rowIs b 38 12 v) (hb : Below w.heap.size w w') : w'.rowIs b 38 12 v := h.of_block (hb.block b h.lt)

theorem row_new (w : World) (v : Nat → Value) (c : Array Value) (hc : c.size = 12) (hv : ∀ j, j < 12 → c[j]? = some (v j)) : (w.alloc (.cells c 38)).rowIs w.heap.size 38 12 v := by
  have h := World.rowIs_alloc w c 38 v (by rw [hc]; exact hv)
  rw [hc] at h
  exact h

/-- A Summary of zeros, as alloc lays it. -/
def zsum : Nat → Value := sval ⟨#[]⟩ ⟨#[]⟩ ⟨#[]⟩ none ⟨#[]⟩ none none none false
theorem row_zero (w : World) : (w.alloc (.cells #[.string ⟨#[]⟩, .string ⟨#[]⟩, .string ⟨#[]⟩, .map none, .int .u64 0, .int .i64 0, .pointer none, .string ⟨#[]⟩, .map none, .pointer none, .pointer none, .bool false] 38)).rowIs w.heap.size 38 12 zsum :=
  row_new w zsum _ rfl (all12 rfl rfl rfl rfl rfl rfl rfl rfl rfl rfl rfl rfl)

theorem unfrozen {w : World} {b : Nat} {v : Nat → Value} (h : w.rowIs b 38 12 v) :
    w.frozen? ⟨b, 0, none⟩ = false ∧ w.frozen? ⟨b, 1, none⟩ = false ∧ w.frozen? ⟨b, 2, none⟩ = false ∧ w.frozen? ⟨b, 3, none⟩ = false ∧ w.frozen? ⟨b, 4, none⟩ = false ∧ w.frozen? ⟨b, 5, none⟩ = false ∧ w.frozen? ⟨b, 6, none⟩ = false ∧ w.frozen? ⟨b, 7, none⟩ = false ∧ w.frozen? ⟨b, 8, none⟩ = false ∧ w.frozen? ⟨b, 9, none⟩ = false ∧ w.frozen? ⟨b, 10, none⟩ = false ∧ w.frozen? ⟨b, 11, none⟩ = false :=
  ⟨h.frozen _, h.frozen _, h.frozen _, h.frozen _, h.frozen _, h.frozen _, h.frozen _, h.frozen _, h.frozen _, h.frozen _, h.frozen _, h.frozen _⟩

theorem stored {w3 w5 : World} {b nb af n m : Nat} {f : Nat → Value} {NM : Text → Option Bun} {AM : Text → Option Avn} (v : Nat → Value) (hz : w5.rowIs b 38 12 f) (h3 : w3.heap.size ≤ b) (hb : Below w3.heap.size w3 w5)
    (hN : Mp rdB w5 nb n NM) (hA : Mp rdA w5 af m AM) (hnb : nb ≠ b) (haf : af ≠ b) :
    (set12 w5 b v).rowIs b 38 12 v ∧ Mp rdB (set12 w5 b v) nb n NM ∧ Mp rdA (set12 w5 b v) af m AM ∧ Below w3.heap.size w3 (set12 w5 b v) :=
  ⟨set12_row hz v, hN.of_block (set12_block _ _ _ _ hnb), hA.of_block (set12_block _ _ _ _ haf), set12_below hb h3 v⟩

set_option maxHeartbeats 4000000 in
set_option maxRecDepth 100000 in
theorem law4_small (i ins ver st : ByteArray) (la : Option Addr) (ln lc : Nat) (LG : Nat → Nat → ByteArray) (ba : Option Addr) (bn bc : Nat) (BG : Nat → Nat → ByteArray) (d dl : Option Addr) (DF DLF : Nat → ByteArray) (bl : Bool) (ka : Option Addr) (kn kc : Nat) (KG : Nat → Nat → ByteArray) (l : ByteArray) (w : World)
    (h15 : Calls Try.prog 15 #[.string i, .string ins, .string ver, .string st, .slice la ln lc, .slice ba bn bc, .pointer d, .pointer dl, .bool bl, .slice ka kn kc, .string l] w fun e w' => RetB e ∧ w = w')
    (hl : l.size ≤ maxLen) (hln : ln ≤ 4096) (hbn : bn ≤ 4096) (hkn : kn ≤ 4096) (hL : Rws w la ln 2 LG) (hB : Rws w ba bn 9 BG) (hK : Rws w ka kn 3 KG) (hD : Ptr w d 4 DF) (hDL : Ptr w dl 3 DLF)
    (hLG : ∀ i c, (LG i c).size ≤ maxLen) (hBG : ∀ i c, (BG i c).size ≤ maxLen) (hKG : ∀ i c, (KG i c).size ≤ maxLen)
    (hla : la = none → ln = 0 ∧ lc = 0) (hba : ba = none → bn = 0 ∧ bc = 0) (hka : ka = none → kn = 0 ∧ kc = 0) :
    Calls Try.prog 4 #[.string i, .string ins, .string ver, .string st, .slice la ln lc, .slice ba bn bc, .pointer d, .pointer dl, .bool bl, .slice ka kn kc, .string l] w fun e w' => e = .returned (.bool true) ∧ Below w.heap.size w w' := by
  go_enter Try.func4, Try.ntmps4
  go_wp2_with fail
  refine h15.mono ?_
  rintro e w' ⟨⟨b, rfl⟩, rfl⟩
  clear h15
  cases b
  · go_wp2_with fail
    go_ret
    exact ⟨rfl, Below.refl _ _⟩
  go_wp2_with fail
  refine (small6 i ins ver st la ln lc LG ba bn bc BG d dl DF DLF ka kn kc KG l w hln hbn hkn hL hB hK hD hDL).mono ?_
  rintro e w1 ⟨⟨b, rfl⟩, hb1⟩
  cases b
  rotate_left
  · go_wp2_with fail
    go_ret
    exact ⟨rfl, hb1⟩
  have HL : Hid (Rws w la ln 2 LG) := hL
  have HB : Hid (Rws w ba bn 9 BG) := hB
  have HK : Hid (Rws w ka kn 3 KG) := hK
  have hL1 := hL.below hb1
  have hB1 := hB.below hb1
  have hD1 := hD.below hb1
  have hDL1 := hDL.below hb1
  clear hL hB hK hD hDL
  go_wp2_with fail
  refine (sum7 i ins ver st la ln lc LG ba bn bc BG d dl DF DLF bl w1 hln hbn hL1 hB1 hD1 hDL1 hLG hBG hla hba).mono ?_
  rintro e w2 ⟨lo, bo, d', dl', rfl, hLm, hBm, _, hb2⟩
  have hb2' := bel_on hb1 hb2
  clear hb1 hb2 hL1 hB1 hD1 hDL1
  go_upto_region 6 with fail
  have hr3 := row_new w2 (sval i ins ver lo st bo d' dl' bl) #[.string i, .string ins, .string ver, .map lo, .int .u64 0, .int .i64 0, .pointer none, .string st, .map bo, .pointer d', .pointer dl', .bool bl] rfl (all12 rfl rfl rfl rfl rfl rfl rfl rfl rfl rfl rfl rfl)
  have hb3 : Below w2.heap.size w2 (w2.alloc (.cells #[.string i, .string ins, .string ver, .map lo, .int .u64 0, .int .i64 0, .pointer none, .string st, .map bo, .pointer d', .pointer dl', .bool bl] 38)) := (Below.refl _ _).alloc (Nat.le_refl _) _
  generalize w2.alloc (.cells #[.string i, .string ins, .string ver, .map lo, .int .u64 0, .int .i64 0, .pointer none, .string st, .map bo, .pointer d', .pointer dl', .bool bl] 38) = w3 at hr3 hb3 ⊢
  generalize w2.heap.size = b3 at hr3 ⊢
  have hLm3 : MpO rdS w3 lo ln (labM LG ln) := hLm.kept (grown_below hb3) (fun b _ => by simp)
  have hBm3 : MpO rdB w3 bo bn (bunM BG bn) := hBm.kept (grown_below hb3) (fun b _ => by simp)
  have hb3' := bel_on hb2' hb3
  clear hLm hBm hb2' hb3
  have hd3 : Below w3.heap.size w3 w3.drew := (Below.refl _ _).drew
  have hK3 : Rws w3.drew ka kn 3 KG := HK.out.below (bel_on hb3' hd3)
  have hr3d := row_below hr3 hd3
  have hb3lt := hr3.lt
  have hd3x : ∀ x, Below w3.heap.size w3 (w3.alloc x).drew := fun x => ((Below.refl _ _).alloc (Nat.le_refl _) _).drew
  have hK3x : ∀ x, Rws (w3.alloc x).drew ka kn 3 KG := fun x => HK.out.below (bel_on hb3' (hd3x x))
  go_upto_region 7 with fail
  go_cut [25, 26] (fun p m wx => ∃ nb af b6, p = .pointer (some ⟨b6, 0, none⟩) ∧ m = .map (some af) ∧ wx.rowIs b6 38 12 (sval (idOf (labM LG ln) l) ((labM LG ln idStr.toList).getD ByteArray.empty) ver lo st (some nb) d' dl' bl) ∧
    Mp rdB wx nb bn (gotM BG bn KG kn) ∧ Mp rdA wx af (kn + bn) (aftM BG bn KG kn) ∧ Below w3.heap.size w3 wx)
  case first =>
    go_region_held3 (fun w' => w'.cell? ⟨b3, 0, none⟩ = some (.string i) ∧ w'.cell? ⟨b3, 1, none⟩ = some (.string ins) ∧ w'.cell? ⟨b3, 2, none⟩ = some (.string ver) ∧ w'.cell? ⟨b3, 3, none⟩ = some (.map lo) ∧ w'.cell? ⟨b3, 4, none⟩ = some (.int .u64 0) ∧ w'.cell? ⟨b3, 5, none⟩ = some (.int .i64 0) ∧ w'.cell? ⟨b3, 6, none⟩ = some (.pointer none) ∧ w'.cell? ⟨b3, 7, none⟩ = some (.string st) ∧ w'.cell? ⟨b3, 8, none⟩ = some (.map bo) ∧ w'.cell? ⟨b3, 9, none⟩ = some (.pointer d') ∧ w'.cell? ⟨b3, 10, none⟩ = some (.pointer dl') ∧ w'.cell? ⟨b3, 11, none⟩ = some (.bool bl))
      (first | with_reducible exact twelve' hr3d | with_reducible exact twelve' hr4 | with_reducible exact twelve' hr5 | with_reducible exact twelve' (hr3.alloc _).drew | with_reducible exact twelve' (hr4.alloc _) | with_reducible exact twelve' (hr5.alloc _) | exact twelve' hr6 | go_keep)
      (first
        | (go_at_call 9; refine (known9' ka kn kc KG _ hkn (by first | with_reducible exact hK3 | exact hK3x _) hKG hka).mono ?_; rintro e w4 ⟨ko, rfl, hKm4, hb4⟩; (first | (have hb4' : Below w3.heap.size w3 w4 := by with_reducible exact bel_on hd3 hb4) | (have hb4' : Below w3.heap.size w3 w4 := bel_on (hd3x _) hb4; have hzC : w4.rowIs w3.heap.size 38 12 zsum := row_below (row_zero w3).drew hb4)); have hr4 := row_below hr3 hb4'; have hLm4 := hLm3.kept (grown_below hb4') (fun b _ => by simp); have hBm4 := hBm3.kept (grown_below hb4') (fun b _ => by simp); have hs4 := hb4'.size)
        | (go_at_call 8; refine (fol8 i ins ver lo st bo d' dl' bl ko l ln bn kn (labM LG ln) (bunM BG bn) (knoM KG kn) _ hl (by omega) (by first | with_reducible exact hLm4 | exact hLm4.alloc _) (by first | with_reducible exact hBm4 | exact hBm4.alloc _) (by first | with_reducible exact hKm4 | exact hKm4.alloc _)).mono ?_; rintro e w5 ⟨nb, af, rfl, hN5, hA5, hb5, hnb, haf⟩; (first | (have hb5' : Below w3.heap.size w3 w5 := by with_reducible exact bel_on hb4' hb5) | (have hb5' : Below w3.heap.size w3 w5 := bel_on (hb4'.alloc hb4'.size _) hb5; have hz5 : w5.rowIs w4.heap.size 38 12 zsum := row_below (row_zero w4) hb5)); have hr5 := row_below hr3 hb5'; (try (have hz5 := row_below hzC hb5; have hz5s : w3.heap.size < w4.heap.size := hzC.lt; have hr6 : (set12 w5 w3.heap.size (sval (idOf (labM LG ln) l) ((labM LG ln idStr.toList).getD ByteArray.empty) ver lo st (some nb) d' dl' bl)).rowIs b3 38 12 (sval i ins ver lo st bo d' dl' bl) := hr5.of_block (set12_block _ _ _ _ (by omega)); obtain ⟨z0, z1, z2, z3, z4, z5, z6, z7, z8, z9, z10, z11⟩ := twelve' hz5; obtain ⟨y0, y1, y2, y3, y4, y5, y6, y7, y8, y9, y10, y11⟩ := unfrozen hz5)); (try (have hr6 : (set12 w5 w4.heap.size (sval (idOf (labM LG ln) l) ((labM LG ln idStr.toList).getD ByteArray.empty) ver lo st (some nb) d' dl' bl)).rowIs b3 38 12 (sval i ins ver lo st bo d' dl' bl) := hr5.of_block (set12_block _ _ _ _ (by omega)); have hzB : w5.rowIs w4.heap.size 38 12 zsum := hz5; obtain ⟨z0, z1, z2, z3, z4, z5, z6, z7, z8, z9, z10, z11⟩ := twelve' hz5; obtain ⟨y0, y1, y2, y3, y4, y5, y6, y7, y8, y9, y10, y11⟩ := unfrozen hz5))))
    · go_wp2_with fail
      go_meet
      case rel => exact ⟨nb, af, w5.heap.size, rfl, rfl, row_new w5 _ _ rfl (all12 rfl rfl rfl rfl rfl rfl rfl rfl rfl rfl rfl rfl), hN5.alloc _, hA5.alloc _, hb5'.alloc hb5'.size _⟩
    · go_wp2_with fail
      go_meet
      case rel =>
        have hS := stored (sval (idOf (labM LG ln) l) ((labM LG ln idStr.toList).getD ByteArray.empty) ver lo st (some nb) d' dl' bl) hzB hs4 hb5' hN5 hA5 (by first | omega | (simp at hnb; omega)) (by first | omega | (simp at haf; omega))
        exact ⟨nb, af, w4.heap.size, rfl, rfl, hS.1, hS.2.1, hS.2.2.1, hS.2.2.2⟩
    · go_wp2_with fail
      go_meet
      case rel =>
        have hS := stored (sval (idOf (labM LG ln) l) ((labM LG ln idStr.toList).getD ByteArray.empty) ver lo st (some nb) d' dl' bl) hz5 (Nat.le_refl _) hb5' hN5 hA5 (by omega) (by omega)
        exact ⟨nb, af, w3.heap.size, rfl, rfl, hS.1, hS.2.1, hS.2.2.1, hS.2.2.2⟩
  case rest =>
    obtain ⟨nb, af, b6, rfl, rfl, hr6, hN6, hA6, hb6⟩ := hcut
    have hLm6 := hLm3.kept (grown_below hb6) (fun b _ => by simp)
    have hb6' := bel_on hb3' hb6
    clear hr3 hLm3 hBm3 hd3 hK3 hr3d hb3lt hd3x hK3x hb3' hb6
    have hd6 : Below wc.heap.size wc wc.drew := (Below.refl _ _).drew
    have hbd := bel_on hb6' hd6
    have hLd : Rws wc.drew la ln 2 LG := HL.out.below hbd
    have hBd : Rws wc.drew ba bn 9 BG := HB.out.below hbd
    have hKd : Rws wc.drew ka kn 3 KG := HK.out.below hbd
    have hLmd := hLm6.kept (grown_below hd6) (fun b _ => by simp)
    have hNd : Mp rdB wc.drew nb bn (gotM BG bn KG kn) := hN6.drew
    have hAd : Mp rdA wc.drew af (kn + bn) (aftM BG bn KG kn) := hA6.drew
    have hrd := row_below hr6 hd6
    clear hr6 hN6 hA6 hLm6 hb6'
    go_upto_region 8 with fail
    go_region_held3 (fun w' => w'.cell? ⟨b6, 0, none⟩ = some (.string (idOf (labM LG ln) l)))
      (exact hrd.cell (i := 0) (by omega))
      (first
        | (go_at_call 11; refine (want11 la ln lc LG l wc.drew (by unfold maxLen; omega) hLd).mono ?_; rintro e w' ⟨rfl, rfl⟩))
    have t8 : wc.cell? ⟨b6, 8, none⟩ = some (.map (some nb)) := hrd.cell (i := 8) (by omega)
    go_wp2_with fail
    refine (rule13 (some nb) bn ba bn bc BG ka kn kc KG wc.drew hbn hkn hBd hKd hBG hNd.toO).mono ?_
    rintro e w7 ⟨rfl, hb7⟩
    have hr7 := row_below hrd hb7
    have hb7' := bel_on hbd hb7
    have hLm7 := hLmd.kept (grown_below hb7) (fun b _ => by simp)
    have hN7 := hNd.kept (grown_below hb7) (by simp)
    have hA7 := hAd.kept (grown_below hb7) (by simp)
    clear hd6 hbd hLd hBd hKd hLmd hNd hAd hrd t8 hb7
    obtain ⟨s0, s1, s2, s3, s4, s5, s6, s7, s8, s9, s10, s11⟩ := twelve' hr7
    go_wp2_with fail
    refine (fol8 (idOf (labM LG ln) l) ((labM LG ln idStr.toList).getD ByteArray.empty) ver lo st (some nb) d' dl' bl (some af) l ln bn (kn + bn) (labM LG ln) (gotM BG bn KG kn) (aftM BG bn KG kn) w7 hl (by omega) hLm7 hN7.toO hA7.toO).mono ?_
    rintro e w8 ⟨nb2, af2, rfl, hN8, hA8, hb8, _, _⟩
    rw [show thenM (aftM BG bn KG kn) (shownM (gotM BG bn KG kn)) = aftM BG bn KG kn from then_again (bunM BG bn) (knoM KG kn)] at hN8 hA8
    rw [show newM (gotM BG bn KG kn) (aftM BG bn KG kn) = gotM BG bn KG kn from new_again (bunM BG bn) (aftM BG bn KG kn)] at hN8
    have hr8 := row_below hr7 hb8
    have hb8' := bel_on hb7' hb8
    have hLm8 := hLm7.kept (grown_below hb8) (fun b _ => by simp)
    have hN8a := hN7.kept (grown_below hb8) (by simp)
    have hA8a := hA7.kept (grown_below hb8) (by simp)
    clear hr7 hb7' hLm7 hN7 hA7 hb8 s0 s1 s2 s3 s4 s5 s6 s7 s8 s9 s10 s11
    go_upto_region 13 with fail
    have hr9 := row_new w8 (sval (idOf (labM LG ln) l) ((labM LG ln idStr.toList).getD ByteArray.empty) ver lo st (some nb2) d' dl' bl) #[.string (idOf (labM LG ln) l), .string ((labM LG ln idStr.toList).getD ByteArray.empty), .string ver, .map lo, .int .u64 0, .int .i64 0, .pointer none, .string st, .map (some nb2), .pointer d', .pointer dl', .bool bl] rfl (all12 rfl rfl rfl rfl rfl rfl rfl rfl rfl rfl rfl rfl)
    have hb9 : Below w8.heap.size w8 (w8.alloc (.cells #[.string (idOf (labM LG ln) l), .string ((labM LG ln idStr.toList).getD ByteArray.empty), .string ver, .map lo, .int .u64 0, .int .i64 0, .pointer none, .string st, .map (some nb2), .pointer d', .pointer dl', .bool bl] 38)) := (Below.refl _ _).alloc (Nat.le_refl _) _
    generalize w8.alloc (.cells #[.string (idOf (labM LG ln) l), .string ((labM LG ln idStr.toList).getD ByteArray.empty), .string ver, .map lo, .int .u64 0, .int .i64 0, .pointer none, .string st, .map (some nb2), .pointer d', .pointer dl', .bool bl] 38) = w9 at hr9 hb9 ⊢
    generalize w8.heap.size = b9 at hr9 ⊢
    have hr9a := row_below hr8 hb9
    have hb9' := bel_on hb8' hb9
    have hLm9 := hLm8.kept (grown_below hb9) (fun b _ => by simp)
    have hN9a := hN8a.kept (grown_below hb9) (by simp)
    have hA9a := hA8a.kept (grown_below hb9) (by simp)
    have hN9 := hN8.kept (grown_below hb9) (by simp)
    have hA9 := hA8.kept (grown_below hb9) (by simp)
    clear hr8 hb8' hLm8 hN8a hA8a hN8 hA8 hb9
    obtain ⟨s0, s1, s2, s3, s4, s5, s6, s7, s8, s9, s10, s11⟩ := twelve' hr9a
    obtain ⟨q0, q1, q2, q3, q4, q5, q6, q7, q8, q9, q10, q11⟩ := twelve' hr9
    go_wp2_with fail
    refine (same16 (idOf (labM LG ln) l) ((labM LG ln idStr.toList).getD ByteArray.empty) ver lo st (some nb) (some nb2) d' dl' bl ln bn bn (labM LG ln) (gotM BG bn KG kn) la ln lc LG ba bn bc BG w9 hln hbn (HL.out.below hb9') (HB.out.below hb9') hLG hBG hLm9 hN9a.toO hN9.toO).mono ?_
    rintro e w10 ⟨rfl, hb10⟩
    have hb10' := bel_on hb9' hb10
    have hA10 := hA9.kept (grown_below hb10) (by simp)
    have hA10a := hA9a.kept (grown_below hb10) (by simp)
    clear hr9 hr9a hLm9 hN9 hN9a hA9 hA9a hb9' hb10 s0 s1 s2 s3 s4 s5 s6 s7 s8 s9 s10 s11 q0 q1 q2 q3 q4 q5 q6 q7 q8 q9 q10 q11
    go_wp2_with fail
    refine (same17 (some af) (some af2) (kn + bn) (kn + bn + bn) (aftM BG bn KG kn) ba bn bc BG ka kn kc KG w10 hbn hkn (HB.out.below hb10') (HK.out.below hb10') hBG hKG hA10a.toO hA10.toO).mono ?_
    rintro e w11 ⟨rfl, hb11⟩
    have hb11' := bel_on hb10' hb11
    go_wp2_with fail
    go_ret
    exact ⟨rfl, hb11'⟩

end Go.Proofs.Qxb6608572a

import Derived.Test.Qxb6608572aEq
namespace Go.Proofs.Qxb6608572a
open Go.ChangeShapes Go.WideShapes Go.ChangeAt Go.RowKit Go.WideMaps Go.Maps

/-- The activations after a first call. -/
def aftM (BG : Nat → Nat → ByteArray) (bn : Nat) (KG : Nat → Nat → ByteArray) (kn : Nat) : Text → Option Avn := thenM (knoM KG kn) (shownM (bunM BG bn))
/-- The bundles that a first call hands back. -/
def gotM (BG : Nat → Nat → ByteArray) (bn : Nat) (KG : Nat → Nat → ByteArray) (kn : Nat) : Text → Option Bun := newM (bunM BG bn) (aftM BG bn KG kn)

section
variable {BG KG : Nat → Nat → ByteArray} {bn kn i j : Nat} {x : Text}

theorem bun_at (h : lastIdx (nmOf BG) bn x = some i) : bunM BG bn x = some (bunOf BG i (BG i 3)) := by simp [bunM, rowsMap, h]
theorem kno_none (h : lastIdx (nmOf KG) kn x = none) : knoM KG kn x = none := by simp [knoM, rowsMap, h]
theorem kno_at (h : lastIdx (nmOf KG) kn x = some j) : knoM KG kn x = some ⟨KG j 1, KG j 2⟩ := by simp [knoM, rowsMap, h]

theorem got_none (h : lastIdx (nmOf BG) bn x = some i) (hk : lastIdx (nmOf KG) kn x = none) : gotM BG bn KG kn x = some (bunOf BG i (BG i 3)) := by
  cases he : (BG i 3).toList.isEmpty <;> simp [gotM, aftM, newM, thenM, shownM, bun_at h, kno_none hk, newB, bunOf, he]

theorem got_other (h : lastIdx (nmOf BG) bn x = some i) (hk : lastIdx (nmOf KG) kn x = some j) (hr : ((KG j 1).toList == (BG i 1).toList) = false) : gotM BG bn KG kn x = some (bunOf BG i (BG i 3)) := by
  have hr' : ¬ (KG j 1).toList = (BG i 1).toList := by simpa using hr
  cases he : (BG i 3).toList.isEmpty <;> simp [gotM, aftM, newM, thenM, shownM, bun_at h, kno_at hk, newB, bunOf, he, hr']

theorem got_same (h : lastIdx (nmOf BG) bn x = some i) (hk : lastIdx (nmOf KG) kn x = some j) (hr : ((KG j 1).toList == (BG i 1).toList) = true) : gotM BG bn KG kn x = some (bunOf BG i (KG j 2)) := by
  have hr' : (KG j 1).toList = (BG i 1).toList := by simpa using hr
  cases he : (BG i 3).toList.isEmpty <;> simp [gotM, aftM, newM, thenM, shownM, bun_at h, kno_at hk, newB, bunOf, he, hr']

theorem keys_got : Keys (gotM BG bn KG kn) (lasts (nmOf BG) bn bn) := by
  have h := keys_rows (nmOf BG) (fun i => bunOf BG i (BG i 3)) bn
  exact ⟨h.nodup, fun x => by rw [h.mem x]; simp [gotM, newM, bunM]⟩

theorem isLast_iff {nm : Nat → Text} {N i : Nat} : isLast nm N i = true ↔ lastIdx nm N (nm i) = some i := by
  unfold isLast
  rw [beq_iff_eq]

/-- A row that is not the last of its name: another is. -/
theorem not_last {nm : Nat → Text} {N i : Nat} (hi : i < N) (h : isLast nm N i = false) : ∃ j, lastIdx nm N (nm i) = some j ∧ j ≠ i := by
  cases e : lastIdx nm N (nm i) with
  | none => exact absurd rfl (lastIdx_none.1 e i hi)
  | some j =>
    refine ⟨j, rfl, fun h2 => ?_⟩
    subst h2
    rw [isLast_iff.2 e] at h
    cases h
end

/-- The cells of a bundle's copy and of the bundle looked up, read off two rows. -/
theorem seventeen {w : World} {p q : Nat} {f g : Nat → Value} (h1 : w.rowIs p 57 9 f) (h2 : w.rowIs q 68 8 g) :
    w.cell? ⟨p, 0, none⟩ = some (f 0) ∧ w.cell? ⟨p, 1, none⟩ = some (f 1) ∧ w.cell? ⟨p, 2, none⟩ = some (f 2) ∧ w.cell? ⟨p, 3, none⟩ = some (f 3) ∧ w.cell? ⟨p, 4, none⟩ = some (f 4) ∧ w.cell? ⟨p, 5, none⟩ = some (f 5) ∧ w.cell? ⟨p, 6, none⟩ = some (f 6) ∧ w.cell? ⟨p, 7, none⟩ = some (f 7) ∧ w.cell? ⟨p, 8, none⟩ = some (f 8) ∧ w.cell? ⟨q, 0, none⟩ = some (g 0) ∧ w.cell? ⟨q, 1, none⟩ = some (g 1) ∧ w.cell? ⟨q, 2, none⟩ = some (g 2) ∧ w.cell? ⟨q, 3, none⟩ = some (g 3) ∧ w.cell? ⟨q, 4, none⟩ = some (g 4) ∧ w.cell? ⟨q, 5, none⟩ = some (g 5) ∧ w.cell? ⟨q, 6, none⟩ = some (g 6) ∧ w.cell? ⟨q, 7, none⟩ = some (g 7) :=
  ⟨h1.cell (by omega), h1.cell (by omega), h1.cell (by omega), h1.cell (by omega), h1.cell (by omega), h1.cell (by omega), h1.cell (by omega), h1.cell (by omega), h1.cell (by omega), h2.cell (by omega), h2.cell (by omega), h2.cell (by omega), h2.cell (by omega), h2.cell (by omega), h2.cell (by omega), h2.cell (by omega), h2.cell (by omega)⟩

def bcells (BG : Nat → Nat → ByteArray) (k : Nat) : Nat → Value := fun c => .string (BG k c)
def gcells (b : Bun) : Nat → Value
  | 0 => .string b.rev
  | 1 => .string b.typ
  | 2 => .string b.first
  | 3 => .string b.last
  | 4 => .string b.code
  | 5 => .string b.msg
  | 6 => .string b.http
  | _ => .string b.commit

theorem all9 {p : Nat → Prop} (h0 : p 0) (h1 : p 1) (h2 : p 2) (h3 : p 3) (h4 : p 4) (h5 : p 5) (h6 : p 6) (h7 : p 7) (h8 : p 8) : ∀ j, j < 9 → p j
  | 0, _ => h0
  | 1, _ => h1
  | 2, _ => h2
  | 3, _ => h3
  | 4, _ => h4
  | 5, _ => h5
  | 6, _ => h6
  | 7, _ => h7
  | 8, _ => h8
  | n + 9, h => by omega

theorem all8 {p : Nat → Prop} (h0 : p 0) (h1 : p 1) (h2 : p 2) (h3 : p 3) (h4 : p 4) (h5 : p 5) (h6 : p 6) (h7 : p 7) : ∀ j, j < 8 → p j
  | 0, _ => h0
  | 1, _ => h1
  | 2, _ => h2
  | 3, _ => h3
  | 4, _ => h4
  | 5, _ => h5
  | 6, _ => h6
  | 7, _ => h7
  | n + 8, h => by omega

/-- The two new blocks of a round. -/
theorem two_rows (w : World) (BG : Nat → Nat → ByteArray) (k : Nat) (b : Bun) (q : Nat) :
    (((w.alloc (.cells #[.string (BG k 0), .string (BG k 1), .string (BG k 2), .string (BG k 3), .string (BG k 4), .string (BG k 5), .string (BG k 6), .string (BG k 7), .string (BG k 8)] 57)).drewN q).alloc (.cells #[.string b.rev, .string b.typ, .string b.first, .string b.last, .string b.code, .string b.msg, .string b.http, .string b.commit] 68)).rowIs w.heap.size 57 9 (bcells BG k) ∧ (((w.alloc (.cells #[.string (BG k 0), .string (BG k 1), .string (BG k 2), .string (BG k 3), .string (BG k 4), .string (BG k 5), .string (BG k 6), .string (BG k 7), .string (BG k 8)] 57)).drewN q).alloc (.cells #[.string b.rev, .string b.typ, .string b.first, .string b.last, .string b.code, .string b.msg, .string b.http, .string b.commit] 68)).rowIs (w.heap.size + 1) 68 8 (gcells b) := by
  have h1 := World.rowIs_alloc w #[.string (BG k 0), .string (BG k 1), .string (BG k 2), .string (BG k 3), .string (BG k 4), .string (BG k 5), .string (BG k 6), .string (BG k 7), .string (BG k 8)] 57 (bcells BG k) (all9 rfl rfl rfl rfl rfl rfl rfl rfl rfl)
  have h2 := World.rowIs_alloc ((w.alloc (.cells #[.string (BG k 0), .string (BG k 1), .string (BG k 2), .string (BG k 3), .string (BG k 4), .string (BG k 5), .string (BG k 6), .string (BG k 7), .string (BG k 8)] 57)).drewN q) #[.string b.rev, .string b.typ, .string b.first, .string b.last, .string b.code, .string b.msg, .string b.http, .string b.commit] 68 (gcells b) (all8 rfl rfl rfl rfl rfl rfl rfl rfl)
  have e : ((w.alloc (.cells #[.string (BG k 0), .string (BG k 1), .string (BG k 2), .string (BG k 3), .string (BG k 4), .string (BG k 5), .string (BG k 6), .string (BG k 7), .string (BG k 8)] 57)).drewN q).heap.size = w.heap.size + 1 := by simp
  rw [e] at h2
  exact ⟨(show ((w.alloc (.cells #[.string (BG k 0), .string (BG k 1), .string (BG k 2), .string (BG k 3), .string (BG k 4), .string (BG k 5), .string (BG k 6), .string (BG k 7), .string (BG k 8)] 57)).drewN q).rowIs w.heap.size 57 9 (bcells BG k) from h1).alloc _, h2⟩

set_option maxHeartbeats 2000000 in
set_option maxRecDepth 100000 in
theorem rule13 (go : Option Nat) (gn : Nat) (ba : Option Addr) (bn bc : Nat) (BG : Nat → Nat → ByteArray) (ka : Option Addr) (kn kc : Nat) (KG : Nat → Nat → ByteArray) (w : World)
    (hbn : bn ≤ 4096) (hkn : kn ≤ 4096) (hB : Rws w ba bn 9 BG) (hK : Rws w ka kn 3 KG) (hBG : ∀ i c, (BG i c).size ≤ maxLen) (hG : MpO rdB w go gn (gotM BG bn KG kn)) :
    Calls Try.prog 13 #[.map go, .slice ba bn bc, .slice ka kn kc] w fun e w' => e = .returned (.bool true) ∧ Below w.heap.size w w' := by
  have hGlt := hG.lt
  have hbm : bn ≤ maxLen := by unfold maxLen; omega
  have hkm : kn ≤ maxLen := by unfold maxLen; omega
  go_enter Try.func13, Try.ntmps13
  go_wp2
  go_loopw [7, 8] (fun c y wr => ∃ k : Nat, k ≤ bn ∧ y = .int .i64 (k : Int) ∧ c = .int .i64 ((lasts (nmOf BG) bn k).length : Nat) ∧ Below w.heap.size w wr) (fun _ y _ => bn - (intOf y).toNat)
  case atStart => exact ⟨0, Nat.zero_le _, rfl, rfl, Below.refl _ _⟩
  case round =>
    obtain ⟨k, hk, rfl, rfl, hbel⟩ := hrel
    have hls := lasts_le (nmOf BG) bn k
    have hG' : MpO rdB wr go gn (gotM BG bn KG kn) := hG.of_blocks (fun b e => hbel.block b (hGlt b e))
    have hsz := hbel.size
    by_cases hlt : k < bn
    · obtain ⟨b, off, ha, hb, hc⟩ := hB.cells hlt
      have hidx := run_row Try.underlying23 size57 ha bn bc k hlt
      obtain ⟨hc0, hc1, hc2, hc3, hc4, hc5, hc6, hc7, hc8⟩ := nine hbel hb hc
      clear ha hc
      have hB' := hB.below hbel
      have hK' := hK.below hbel
      cases hla : isLast (nmOf BG) bn k
      · obtain ⟨j, hj, hjk⟩ := not_last hlt hla
        have HL : Hid ((lasts (nmOf BG) bn (k + 1)).length = (lasts (nmOf BG) bn k).length) := lasts_len_no hla
        have hne : ((j : Int) != (k : Int)) = true := by simp; omega
        clear hla hjk
        go_wp2_with fail
        refine (bundleAt_yes ba bn bc BG (BG k 0) _ hbm (hB'.below ((Below.refl _ _).alloc (Nat.le_refl _) _)) j hj).mono ?_
        rintro e w' ⟨rfl, rfl⟩
        go_wp2_with fail
        go_roundw
        case rel => exact ⟨k + 1, by omega, by go_num, by rw [HL.out], hbel.alloc hsz _⟩
        case measure => simp [intOf]; omega
      · have hlast := isLast_iff.1 hla
        have HL : Hid ((lasts (nmOf BG) bn (k + 1)).length = (lasts (nmOf BG) bn k).length + 1) := lasts_len_yes hla
        clear hla
        cases hkk : lastIdx (nmOf KG) kn (nmOf BG k) with
        | none =>
          have hgot : gotM BG bn KG kn (BG k 0).toList = some (bunOf BG k (BG k 3)) := got_none hlast hkk
          have hlook : ∀ (x : Obj) (q : Nat), (Instr.lookup 34 (.map go) (.string (BG k 0)) true).run Try.prog ((wr.alloc x).drewN q) = .ok (.tuple #[.agg #[.string (BG k 1), .string (BG k 2), .string (BG k 3), .string (BG k 4), .string (BG k 5), .string (BG k 6), .string (BG k 7), .string (BG k 8)], .bool true]) ((wr.alloc x).drewN q) :=
            fun x q => (show MpO rdB ((wr.alloc x).drewN q) go gn (gotM BG bn KG kn) from hG'.alloc x).look_yes (v := bunOf BG k (BG k 3)) Try.underlying34 (zero68 _) (BG k 0) (hBG k 0) hgot
          clear hgot
          go_wp2_with fail
          refine (bundleAt_yes ba bn bc BG (BG k 0) _ hbm (hB'.below ((Below.refl _ _).alloc (Nat.le_refl _) _)) k hlast).mono ?_
          rintro e w' ⟨rfl, rfl⟩
          go_wp2_with fail
          refine (knownAt_no ka kn kc KG (BG k 0) _ hkm (hK'.below ((Below.refl _ _).alloc (Nat.le_refl _) _)) hkk).mono ?_
          rintro e w' ⟨rfl, rfl⟩
          clear hlast hkk
          go_wp2
          go_quiet (fail)
          go_upto_region 13 with fail
          obtain ⟨hr1, hr2⟩ := two_rows wr BG k (bunOf BG k (BG k 3)) nq
          have hbx : Below w.heap.size w (((wr.alloc (.cells #[.string (BG k 0), .string (BG k 1), .string (BG k 2), .string (BG k 3), .string (BG k 4), .string (BG k 5), .string (BG k 6), .string (BG k 7), .string (BG k 8)] 57)).drewN nq).alloc (.cells #[.string (BG k 1), .string (BG k 2), .string (BG k 3), .string (BG k 4), .string (BG k 5), .string (BG k 6), .string (BG k 7), .string (BG k 8)] 68)) := (below_drewN (hbel.alloc hsz _) nq).alloc (by simp; omega) _
          change (((wr.alloc (.cells #[.string (BG k 0), .string (BG k 1), .string (BG k 2), .string (BG k 3), .string (BG k 4), .string (BG k 5), .string (BG k 6), .string (BG k 7), .string (BG k 8)] 57)).drewN nq).alloc (.cells #[.string (BG k 1), .string (BG k 2), .string (BG k 3), .string (BG k 4), .string (BG k 5), .string (BG k 6), .string (BG k 7), .string (BG k 8)] 68)).rowIs (wr.heap.size + 1) 68 8 (gcells (bunOf BG k (BG k 3))) at hr2
          change (((wr.alloc (.cells #[.string (BG k 0), .string (BG k 1), .string (BG k 2), .string (BG k 3), .string (BG k 4), .string (BG k 5), .string (BG k 6), .string (BG k 7), .string (BG k 8)] 57)).drewN nq).alloc (.cells #[.string (BG k 1), .string (BG k 2), .string (BG k 3), .string (BG k 4), .string (BG k 5), .string (BG k 6), .string (BG k 7), .string (BG k 8)] 68)).rowIs wr.heap.size 57 9 (bcells BG k) at hr1
          generalize (((wr.alloc (.cells #[.string (BG k 0), .string (BG k 1), .string (BG k 2), .string (BG k 3), .string (BG k 4), .string (BG k 5), .string (BG k 6), .string (BG k 7), .string (BG k 8)] 57)).drewN nq).alloc (.cells #[.string (BG k 1), .string (BG k 2), .string (BG k 3), .string (BG k 4), .string (BG k 5), .string (BG k 6), .string (BG k 7), .string (BG k 8)] 68)) = wx at hr1 hr2 hbx ⊢
          obtain ⟨x0, x1, x2, x3, x4, x5, x6, x7, x8, y0, y1, y2, y3, y4, y5, y6, y7⟩ := seventeen hr1 hr2
          simp only [bcells, gcells, bunOf] at x0 x1 x2 x3 x4 x5 x6 x7 x8 y0 y1 y2 y3 y4 y5 y6 y7
          clear hlook hc0 hc1 hc2 hc3 hc4 hc5 hc6 hc7 hc8 hidx hB' hK' hG'
          have hneq := neq68 (BG k 1) (BG k 2) (BG k 3) (BG k 4) (BG k 5) (BG k 6) (BG k 7) (BG k 8)
          have hgd := gd68
          go_region_held3 (fun w' => w'.cell? ⟨wr.heap.size, 0, none⟩ = some (.string (BG k 0)) ∧ w'.cell? ⟨wr.heap.size, 1, none⟩ = some (.string (BG k 1)) ∧ w'.cell? ⟨wr.heap.size, 2, none⟩ = some (.string (BG k 2)) ∧ w'.cell? ⟨wr.heap.size, 3, none⟩ = some (.string (BG k 3)) ∧ w'.cell? ⟨wr.heap.size, 4, none⟩ = some (.string (BG k 4)) ∧ w'.cell? ⟨wr.heap.size, 5, none⟩ = some (.string (BG k 5)) ∧ w'.cell? ⟨wr.heap.size, 6, none⟩ = some (.string (BG k 6)) ∧ w'.cell? ⟨wr.heap.size, 7, none⟩ = some (.string (BG k 7)) ∧ w'.cell? ⟨wr.heap.size, 8, none⟩ = some (.string (BG k 8)) ∧ w'.cell? ⟨wr.heap.size + 1, 0, none⟩ = some (.string (BG k 1)) ∧ w'.cell? ⟨wr.heap.size + 1, 1, none⟩ = some (.string (BG k 2)) ∧ w'.cell? ⟨wr.heap.size + 1, 2, none⟩ = some (.string (BG k 3)) ∧ w'.cell? ⟨wr.heap.size + 1, 3, none⟩ = some (.string (BG k 4)) ∧ w'.cell? ⟨wr.heap.size + 1, 4, none⟩ = some (.string (BG k 5)) ∧ w'.cell? ⟨wr.heap.size + 1, 5, none⟩ = some (.string (BG k 6)) ∧ w'.cell? ⟨wr.heap.size + 1, 6, none⟩ = some (.string (BG k 7)) ∧ w'.cell? ⟨wr.heap.size + 1, 7, none⟩ = some (.string (BG k 8))) (first | go_keep | exact seventeen (hr1.of_block (hb4.block _ hr1.lt)) (hr2.of_block (hb4.block _ hr2.lt)))
            (first | (go_at_call 19; refine (bundle19 (BG k 0) (BG k 1) (BG k 2) (BG k 3) (BG k 4) (BG k 5) (BG k 6) (BG k 7) (BG k 8) (BG k 3) wx.drew).mono ?_; rintro e w4 ⟨rfl, hb4⟩))
          go_wp2
          go_roundw
          case rel =>
            have hfin : Below w.heap.size w w4 := hbx.drew.trans (hb4.mono hbx.size)
            have hcn : Value.int .i64 (↑(lasts (nmOf BG) bn k).length + 1) = .int .i64 ((lasts (nmOf BG) bn (k + 1)).length : Nat) := by rw [HL.out]; rfl
            first | exact ⟨k + 1, by omega, by go_num, hcn, hfin⟩ | ((repeat apply Exists.intro); exact ⟨⟨k + 1, by omega, by go_num, hcn, hfin⟩, rfl⟩)
          case measure => simp [intOf]; omega
        | some j =>
          have hjk := (lastIdx_some hkk).1
          obtain ⟨b2, off2, ha2, hb2, hc2⟩ := hK.cells hjk
          have hidj := run_row Try.underlying26 size63 ha2 kn kc j hjk
          have kc1 := (hbel.cell (p := ⟨b2, off2 + j * 3 + 1, none⟩) hb2).trans (hc2 1 (by omega))
          have kc2 := (hbel.cell (p := ⟨b2, off2 + j * 3 + 2, none⟩) hb2).trans (hc2 2 (by omega))
          have hb2' : b2 < wr.heap.size := by omega
          clear ha2 hc2
          cases hrv : ((KG j 1).toList == (BG k 1).toList)
          · skip
            have hgot : gotM BG bn KG kn (BG k 0).toList = some (bunOf BG k (BG k 3)) := got_other hlast hkk hrv
            have hlook : ∀ (x : Obj) (q : Nat), (Instr.lookup 34 (.map go) (.string (BG k 0)) true).run Try.prog ((wr.alloc x).drewN q) = .ok (.tuple #[.agg #[.string (BG k 1), .string (BG k 2), .string (BG k 3), .string (BG k 4), .string (BG k 5), .string (BG k 6), .string (BG k 7), .string (BG k 8)], .bool true]) ((wr.alloc x).drewN q) :=
              fun x q => (show MpO rdB ((wr.alloc x).drewN q) go gn (gotM BG bn KG kn) from hG'.alloc x).look_yes (v := bunOf BG k (BG k 3)) Try.underlying34 (zero68 _) (BG k 0) (hBG k 0) hgot
            clear hgot
            go_wp2_with fail
            refine (bundleAt_yes ba bn bc BG (BG k 0) _ hbm (hB'.below ((Below.refl _ _).alloc (Nat.le_refl _) _)) k hlast).mono ?_
            rintro e w' ⟨rfl, rfl⟩
            go_wp2_with fail
            refine (knownAt_yes ka kn kc KG (BG k 0) _ hkm (hK'.below ((Below.refl _ _).alloc (Nat.le_refl _) _)) j hkk).mono ?_
            rintro e w' ⟨rfl, rfl⟩
            clear hlast hkk
            go_wp2
            go_quiet (fail)
            go_upto_region 13 with fail
            obtain ⟨hr1, hr2⟩ := two_rows wr BG k (bunOf BG k (BG k 3)) nq
            have hbx : Below w.heap.size w (((wr.alloc (.cells #[.string (BG k 0), .string (BG k 1), .string (BG k 2), .string (BG k 3), .string (BG k 4), .string (BG k 5), .string (BG k 6), .string (BG k 7), .string (BG k 8)] 57)).drewN nq).alloc (.cells #[.string (BG k 1), .string (BG k 2), .string (BG k 3), .string (BG k 4), .string (BG k 5), .string (BG k 6), .string (BG k 7), .string (BG k 8)] 68)) := (below_drewN (hbel.alloc hsz _) nq).alloc (by simp; omega) _
            change (((wr.alloc (.cells #[.string (BG k 0), .string (BG k 1), .string (BG k 2), .string (BG k 3), .string (BG k 4), .string (BG k 5), .string (BG k 6), .string (BG k 7), .string (BG k 8)] 57)).drewN nq).alloc (.cells #[.string (BG k 1), .string (BG k 2), .string (BG k 3), .string (BG k 4), .string (BG k 5), .string (BG k 6), .string (BG k 7), .string (BG k 8)] 68)).rowIs (wr.heap.size + 1) 68 8 (gcells (bunOf BG k (BG k 3))) at hr2
            change (((wr.alloc (.cells #[.string (BG k 0), .string (BG k 1), .string (BG k 2), .string (BG k 3), .string (BG k 4), .string (BG k 5), .string (BG k 6), .string (BG k 7), .string (BG k 8)] 57)).drewN nq).alloc (.cells #[.string (BG k 1), .string (BG k 2), .string (BG k 3), .string (BG k 4), .string (BG k 5), .string (BG k 6), .string (BG k 7), .string (BG k 8)] 68)).rowIs wr.heap.size 57 9 (bcells BG k) at hr1
            generalize (((wr.alloc (.cells #[.string (BG k 0), .string (BG k 1), .string (BG k 2), .string (BG k 3), .string (BG k 4), .string (BG k 5), .string (BG k 6), .string (BG k 7), .string (BG k 8)] 57)).drewN nq).alloc (.cells #[.string (BG k 1), .string (BG k 2), .string (BG k 3), .string (BG k 4), .string (BG k 5), .string (BG k 6), .string (BG k 7), .string (BG k 8)] 68)) = wx at hr1 hr2 hbx ⊢
            obtain ⟨x0, x1, x2, x3, x4, x5, x6, x7, x8, y0, y1, y2, y3, y4, y5, y6, y7⟩ := seventeen hr1 hr2
            simp only [bcells, gcells, bunOf] at x0 x1 x2 x3 x4 x5 x6 x7 x8 y0 y1 y2 y3 y4 y5 y6 y7
            clear hlook hc0 hc1 hc2 hc3 hc4 hc5 hc6 hc7 hc8 hidx hB' hK' hG'
            have hneq := neq68 (BG k 1) (BG k 2) (BG k 3) (BG k 4) (BG k 5) (BG k 6) (BG k 7) (BG k 8)
            have hgd := gd68
            go_region_held3 (fun w' => w'.cell? ⟨wr.heap.size, 0, none⟩ = some (.string (BG k 0)) ∧ w'.cell? ⟨wr.heap.size, 1, none⟩ = some (.string (BG k 1)) ∧ w'.cell? ⟨wr.heap.size, 2, none⟩ = some (.string (BG k 2)) ∧ w'.cell? ⟨wr.heap.size, 3, none⟩ = some (.string (BG k 3)) ∧ w'.cell? ⟨wr.heap.size, 4, none⟩ = some (.string (BG k 4)) ∧ w'.cell? ⟨wr.heap.size, 5, none⟩ = some (.string (BG k 5)) ∧ w'.cell? ⟨wr.heap.size, 6, none⟩ = some (.string (BG k 6)) ∧ w'.cell? ⟨wr.heap.size, 7, none⟩ = some (.string (BG k 7)) ∧ w'.cell? ⟨wr.heap.size, 8, none⟩ = some (.string (BG k 8)) ∧ w'.cell? ⟨wr.heap.size + 1, 0, none⟩ = some (.string (BG k 1)) ∧ w'.cell? ⟨wr.heap.size + 1, 1, none⟩ = some (.string (BG k 2)) ∧ w'.cell? ⟨wr.heap.size + 1, 2, none⟩ = some (.string (BG k 3)) ∧ w'.cell? ⟨wr.heap.size + 1, 3, none⟩ = some (.string (BG k 4)) ∧ w'.cell? ⟨wr.heap.size + 1, 4, none⟩ = some (.string (BG k 5)) ∧ w'.cell? ⟨wr.heap.size + 1, 5, none⟩ = some (.string (BG k 6)) ∧ w'.cell? ⟨wr.heap.size + 1, 6, none⟩ = some (.string (BG k 7)) ∧ w'.cell? ⟨wr.heap.size + 1, 7, none⟩ = some (.string (BG k 8))) (first | go_keep | exact seventeen (hr1.of_block (hb4.block _ hr1.lt)) (hr2.of_block (hb4.block _ hr2.lt)))
              (first | (go_at_call 19; refine (bundle19 (BG k 0) (BG k 1) (BG k 2) (BG k 3) (BG k 4) (BG k 5) (BG k 6) (BG k 7) (BG k 8) (BG k 3) wx.drew).mono ?_; rintro e w4 ⟨rfl, hb4⟩))
            go_wp2
            go_roundw
            case rel =>
              have hfin : Below w.heap.size w w4 := hbx.drew.trans (hb4.mono hbx.size)
              have hcn : Value.int .i64 (↑(lasts (nmOf BG) bn k).length + 1) = .int .i64 ((lasts (nmOf BG) bn (k + 1)).length : Nat) := by rw [HL.out]; rfl
              first | exact ⟨k + 1, by omega, by go_num, hcn, hfin⟩ | ((repeat apply Exists.intro); exact ⟨⟨k + 1, by omega, by go_num, hcn, hfin⟩, rfl⟩)
            case measure => simp [intOf]; omega
          · skip
            have hgot : gotM BG bn KG kn (BG k 0).toList = some (bunOf BG k (KG j 2)) := got_same hlast hkk hrv
            have hlook : ∀ (x : Obj) (q : Nat), (Instr.lookup 34 (.map go) (.string (BG k 0)) true).run Try.prog ((wr.alloc x).drewN q) = .ok (.tuple #[.agg #[.string (BG k 1), .string (BG k 2), .string (KG j 2), .string (BG k 4), .string (BG k 5), .string (BG k 6), .string (BG k 7), .string (BG k 8)], .bool true]) ((wr.alloc x).drewN q) :=
              fun x q => (show MpO rdB ((wr.alloc x).drewN q) go gn (gotM BG bn KG kn) from hG'.alloc x).look_yes (v := bunOf BG k (KG j 2)) Try.underlying34 (zero68 _) (BG k 0) (hBG k 0) hgot
            clear hgot
            go_wp2_with fail
            refine (bundleAt_yes ba bn bc BG (BG k 0) _ hbm (hB'.below ((Below.refl _ _).alloc (Nat.le_refl _) _)) k hlast).mono ?_
            rintro e w' ⟨rfl, rfl⟩
            go_wp2_with fail
            refine (knownAt_yes ka kn kc KG (BG k 0) _ hkm (hK'.below ((Below.refl _ _).alloc (Nat.le_refl _) _)) j hkk).mono ?_
            rintro e w' ⟨rfl, rfl⟩
            clear hlast hkk
            go_wp2
            go_quiet (fail)
            go_upto_region 13 with fail
            obtain ⟨hr1, hr2⟩ := two_rows wr BG k (bunOf BG k (KG j 2)) nq
            have hbx : Below w.heap.size w (((wr.alloc (.cells #[.string (BG k 0), .string (BG k 1), .string (BG k 2), .string (BG k 3), .string (BG k 4), .string (BG k 5), .string (BG k 6), .string (BG k 7), .string (BG k 8)] 57)).drewN nq).alloc (.cells #[.string (BG k 1), .string (BG k 2), .string (KG j 2), .string (BG k 4), .string (BG k 5), .string (BG k 6), .string (BG k 7), .string (BG k 8)] 68)) := (below_drewN (hbel.alloc hsz _) nq).alloc (by simp; omega) _
            change (((wr.alloc (.cells #[.string (BG k 0), .string (BG k 1), .string (BG k 2), .string (BG k 3), .string (BG k 4), .string (BG k 5), .string (BG k 6), .string (BG k 7), .string (BG k 8)] 57)).drewN nq).alloc (.cells #[.string (BG k 1), .string (BG k 2), .string (KG j 2), .string (BG k 4), .string (BG k 5), .string (BG k 6), .string (BG k 7), .string (BG k 8)] 68)).rowIs (wr.heap.size + 1) 68 8 (gcells (bunOf BG k (KG j 2))) at hr2
            change (((wr.alloc (.cells #[.string (BG k 0), .string (BG k 1), .string (BG k 2), .string (BG k 3), .string (BG k 4), .string (BG k 5), .string (BG k 6), .string (BG k 7), .string (BG k 8)] 57)).drewN nq).alloc (.cells #[.string (BG k 1), .string (BG k 2), .string (KG j 2), .string (BG k 4), .string (BG k 5), .string (BG k 6), .string (BG k 7), .string (BG k 8)] 68)).rowIs wr.heap.size 57 9 (bcells BG k) at hr1
            generalize (((wr.alloc (.cells #[.string (BG k 0), .string (BG k 1), .string (BG k 2), .string (BG k 3), .string (BG k 4), .string (BG k 5), .string (BG k 6), .string (BG k 7), .string (BG k 8)] 57)).drewN nq).alloc (.cells #[.string (BG k 1), .string (BG k 2), .string (KG j 2), .string (BG k 4), .string (BG k 5), .string (BG k 6), .string (BG k 7), .string (BG k 8)] 68)) = wx at hr1 hr2 hbx ⊢
            obtain ⟨x0, x1, x2, x3, x4, x5, x6, x7, x8, y0, y1, y2, y3, y4, y5, y6, y7⟩ := seventeen hr1 hr2
            simp only [bcells, gcells, bunOf] at x0 x1 x2 x3 x4 x5 x6 x7 x8 y0 y1 y2 y3 y4 y5 y6 y7
            clear hlook hc0 hc1 hc2 hc3 hc4 hc5 hc6 hc7 hc8 hidx hB' hK' hG'
            have hneq := neq68 (BG k 1) (BG k 2) (KG j 2) (BG k 4) (BG k 5) (BG k 6) (BG k 7) (BG k 8)
            have hgd := gd68
            go_region_held3 (fun w' => w'.cell? ⟨wr.heap.size, 0, none⟩ = some (.string (BG k 0)) ∧ w'.cell? ⟨wr.heap.size, 1, none⟩ = some (.string (BG k 1)) ∧ w'.cell? ⟨wr.heap.size, 2, none⟩ = some (.string (BG k 2)) ∧ w'.cell? ⟨wr.heap.size, 3, none⟩ = some (.string (BG k 3)) ∧ w'.cell? ⟨wr.heap.size, 4, none⟩ = some (.string (BG k 4)) ∧ w'.cell? ⟨wr.heap.size, 5, none⟩ = some (.string (BG k 5)) ∧ w'.cell? ⟨wr.heap.size, 6, none⟩ = some (.string (BG k 6)) ∧ w'.cell? ⟨wr.heap.size, 7, none⟩ = some (.string (BG k 7)) ∧ w'.cell? ⟨wr.heap.size, 8, none⟩ = some (.string (BG k 8)) ∧ w'.cell? ⟨wr.heap.size + 1, 0, none⟩ = some (.string (BG k 1)) ∧ w'.cell? ⟨wr.heap.size + 1, 1, none⟩ = some (.string (BG k 2)) ∧ w'.cell? ⟨wr.heap.size + 1, 2, none⟩ = some (.string (KG j 2)) ∧ w'.cell? ⟨wr.heap.size + 1, 3, none⟩ = some (.string (BG k 4)) ∧ w'.cell? ⟨wr.heap.size + 1, 4, none⟩ = some (.string (BG k 5)) ∧ w'.cell? ⟨wr.heap.size + 1, 5, none⟩ = some (.string (BG k 6)) ∧ w'.cell? ⟨wr.heap.size + 1, 6, none⟩ = some (.string (BG k 7)) ∧ w'.cell? ⟨wr.heap.size + 1, 7, none⟩ = some (.string (BG k 8))) (first | go_keep | exact seventeen (hr1.of_block (hb4.block _ hr1.lt)) (hr2.of_block (hb4.block _ hr2.lt)))
              (first | (go_at_call 19; refine (bundle19 (BG k 0) (BG k 1) (BG k 2) (BG k 3) (BG k 4) (BG k 5) (BG k 6) (BG k 7) (BG k 8) (KG j 2) wx.drew).mono ?_; rintro e w4 ⟨rfl, hb4⟩))
            go_wp2
            go_roundw
            case rel =>
              have hfin : Below w.heap.size w w4 := hbx.drew.trans (hb4.mono hbx.size)
              have hcn : Value.int .i64 (↑(lasts (nmOf BG) bn k).length + 1) = .int .i64 ((lasts (nmOf BG) bn (k + 1)).length : Nat) := by rw [HL.out]; rfl
              first | exact ⟨k + 1, by omega, by go_num, hcn, hfin⟩ | ((repeat apply Exists.intro); exact ⟨⟨k + 1, by omega, by go_num, hcn, hfin⟩, rfl⟩)
            case measure => simp [intOf]; omega
    · obtain rfl : bn = k := by omega
      have hlen := hG'.len Try.underlying34 keys_got
      go_wp2
      go_ret
      exact ⟨rfl, hbel⟩

end Go.Proofs.Qxb6608572a

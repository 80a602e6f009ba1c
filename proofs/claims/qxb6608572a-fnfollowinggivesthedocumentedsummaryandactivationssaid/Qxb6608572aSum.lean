import Derived.Test.Qxb6608572aMake
import Derived.Deep.DeepCutAuto
namespace Go.Proofs.Qxb6608572a
open Go.ChangeShapes Go.WideShapes Go.ChangeAt Go.RowKit Go.WideMaps Go.Maps

/-- The bundles' map. -/
def bunM (G : Nat → Nat → ByteArray) (len : Nat) : Text → Option Bun := rowsMap (nmOf G) (fun i => bunOf G i (G i 3)) len

/-- A pointer to a struct of wd strings: nil, or it leads to their cells. -/
def Ptr (w : World) (a : Option Addr) (wd : Nat) (F : Nat → ByteArray) : Prop :=
  a = none ∨ ∃ b off, a = some ⟨b, off, none⟩ ∧ b < w.heap.size ∧ ∀ c, c < wd → w.cell? ⟨b, off + c, none⟩ = some (.string (F c))

/-- The cells of a Summary. -/
def sval (i ins ver : ByteArray) (lo : Option Nat) (st : ByteArray) (bo : Option Nat) (d dl : Option Addr) (bl : Bool) : Nat → Value
  | 0 => .string i
  | 1 => .string ins
  | 2 => .string ver
  | 3 => .map lo
  | 4 => .int .u64 0
  | 5 => .int .i64 0
  | 6 => .pointer none
  | 7 => .string st
  | 8 => .map bo
  | 9 => .pointer d
  | 10 => .pointer dl
  | _ => .bool bl

/-- The world while a Summary is laid: its result's cell, its own cells v, nothing old turned. -/
structure SS (w : World) (v : Nat → Value) (wr : World) : Prop where
  res : ∃ f, wr.rowIs w.heap.size 38 12 f
  sm : wr.rowIs (w.heap.size + 1) 38 12 v
  bel : Below w.heap.size w wr

theorem SS.grown {w : World} {v : Nat → Value} {wr w' : World} {row : Option Nat} (h : SS w v wr) (hg : wr.grownBy w' row) (hr : ∀ j, row = some j → w.heap.size + 2 ≤ j) : SS w v w' := by
  obtain ⟨f, hf⟩ := h.res
  exact ⟨⟨f, hf.of_block (hg.block _ hf.lt (fun e => by have := hr _ e.symm; omega))⟩, h.sm.of_block (hg.block _ h.sm.lt (fun e => by have := hr _ e.symm; omega)), h.bel.grown hg h.bel.size (fun j hj => by have := hr j hj; omega)⟩

theorem SS.drew {w : World} {v : Nat → Value} {wr : World} (h : SS w v wr) : SS w v wr.drew := ⟨h.res, h.sm, h.bel.drew⟩

theorem SS.size {w : World} {v : Nat → Value} {wr : World} (h : SS w v wr) : w.heap.size + 2 ≤ wr.heap.size := by
  have := h.sm.lt
  omega

theorem SS.set {w : World} {v : Nat → Value} {wr : World} (h : SS w v wr) (k : Nat) (x : Value) {v' : Nat → Value} (e : ∀ j, j < 12 → (if j = k then x else v j) = v' j) : SS w v' (wr.setCell ⟨w.heap.size + 1, k, none⟩ x) := by
  obtain ⟨f, hf⟩ := h.res
  exact ⟨⟨f, hf.setOther (by simp) x⟩, (h.sm.set k x).congr e, h.bel.setCell (by simp) x⟩

theorem ss_start (w : World) (f v : Nat → Value) (a c : Array Value) (ha : a.size = 12) (hc : c.size = 12) (hf : ∀ j, j < 12 → a[j]? = some (f j)) (hv : ∀ j, j < 12 → c[j]? = some (v j)) : SS w v ((w.alloc (.cells a 38)).alloc (.cells c 38)) := by
  have h1 := World.rowIs_alloc w a 38 f (by rw [ha]; exact hf)
  have h2 := World.rowIs_alloc (w.alloc (.cells a 38)) c 38 v (by rw [hc]; exact hv)
  rw [ha] at h1
  rw [hc] at h2
  have e : (w.alloc (.cells a 38)).heap.size = w.heap.size + 1 := by simp
  rw [e] at h2
  exact ⟨⟨f, h1.alloc _⟩, h2, ((Below.refl _ _).alloc (Nat.le_refl _) _).alloc (by simp) _⟩

/-- The nine cells of a bundle's row, in a later world. -/
theorem nine {w w' : World} {b off : Nat} {G : Nat → ByteArray} (hbel : Below w.heap.size w w') (hb : b < w.heap.size) (hc : ∀ c, c < 9 → w.cell? ⟨b, off + c, none⟩ = some (.string (G c))) :
    w'.cell? ⟨b, off, none⟩ = some (.string (G 0)) ∧ w'.cell? ⟨b, off + 1, none⟩ = some (.string (G 1)) ∧ w'.cell? ⟨b, off + 2, none⟩ = some (.string (G 2)) ∧ w'.cell? ⟨b, off + 3, none⟩ = some (.string (G 3)) ∧ w'.cell? ⟨b, off + 4, none⟩ = some (.string (G 4)) ∧ w'.cell? ⟨b, off + 5, none⟩ = some (.string (G 5)) ∧ w'.cell? ⟨b, off + 6, none⟩ = some (.string (G 6)) ∧ w'.cell? ⟨b, off + 7, none⟩ = some (.string (G 7)) ∧ w'.cell? ⟨b, off + 8, none⟩ = some (.string (G 8)) := by
  have h : ∀ c, c < 9 → w'.cell? ⟨b, off + c, none⟩ = some (.string (G c)) := fun c hcw => (hbel.cell (p := ⟨b, off + c, none⟩) hb).trans (hc c hcw)
  exact ⟨h 0 (by omega), h 1 (by omega), h 2 (by omega), h 3 (by omega), h 4 (by omega), h 5 (by omega), h 6 (by omega), h 7 (by omega), h 8 (by omega)⟩

theorem grown_below {w w' : World} (h : Below w.heap.size w w') : w.grownBy w' none := ⟨h.os, h.tape, h.output, h.size, fun k hk _ => h.block k hk⟩

theorem store_bun {w : World} {b n : Nat} {M : Text → Option Bun} (h : Mp rdB w b n M) (hn : n < maxLen) (G : Nat → Nat → ByteArray) (k : Nat) (hs : (G k 0).size ≤ maxLen) :
    ∃ w', (Instr.mapUpdate 34 (.map (some b)) (.string (G k 0)) (.agg #[.string (G k 1), .string (G k 2), .string (G k 3), .string (G k 4), .string (G k 5), .string (G k 6), .string (G k 7), .string (G k 8)])).run Try.prog w = .ok () w' ∧
      Mp rdB w' b (n + 1) (upd M (G k 0).toList (bunOf G k (G k 3))) ∧ w.grownBy w' (some b) :=
  h.store Try.underlying34 hn (G k 0) hs (bunOf G k (G k 3))

/-- Cases over the twelve cells. -/
theorem all12 {p : Nat → Prop} (h0 : p 0) (h1 : p 1) (h2 : p 2) (h3 : p 3) (h4 : p 4) (h5 : p 5) (h6 : p 6) (h7 : p 7) (h8 : p 8) (h9 : p 9) (h10 : p 10) (h11 : p 11) : ∀ j, j < 12 → p j
  | 0, _ => h0
  | 1, _ => h1
  | 2, _ => h2
  | 3, _ => h3
  | 4, _ => h4
  | 5, _ => h5
  | 6, _ => h6
  | 7, _ => h7
  | 8, _ => h8
  | 9, _ => h9
  | 10, _ => h10
  | 11, _ => h11
  | n + 12, h => by omega

/-- Twelve cells stored, one behind the other. -/
def set12 (w : World) (b : Nat) (g : Nat → Value) : World := (((((((((((w.setCell ⟨b, 0, none⟩ (g 0)).setCell ⟨b, 1, none⟩ (g 1)).setCell ⟨b, 2, none⟩ (g 2)).setCell ⟨b, 3, none⟩ (g 3)).setCell ⟨b, 4, none⟩ (g 4)).setCell ⟨b, 5, none⟩ (g 5)).setCell ⟨b, 6, none⟩ (g 6)).setCell ⟨b, 7, none⟩ (g 7)).setCell ⟨b, 8, none⟩ (g 8)).setCell ⟨b, 9, none⟩ (g 9)).setCell ⟨b, 10, none⟩ (g 10)).setCell ⟨b, 11, none⟩ (g 11)

theorem set12_block (w : World) (b : Nat) (g : Nat → Value) (k : Nat) (h : k ≠ b) : (set12 w b g).heap[k]? = w.heap[k]? := by
  unfold set12
  repeat rw [Below.heap_setCell _ _ _ _ (by simpa using h)]

theorem set12_below {B : Nat} {a w : World} (h : Below B a w) {b : Nat} (hb : B ≤ b) (g : Nat → Value) : Below B a (set12 w b g) := by
  unfold set12
  repeat refine Below.setCell ?_ hb _
  exact h

theorem set12_row {w : World} {b : Nat} {t : TypeId} {f : Nat → Value} (h : w.rowIs b t 12 f) (g : Nat → Value) : (set12 w b g).rowIs b t 12 g := by
  unfold set12
  have h1 := ((((((((((((h.set 0 (g 0)).set 1 (g 1)).set 2 (g 2)).set 3 (g 3)).set 4 (g 4)).set 5 (g 5)).set 6 (g 6)).set 7 (g 7)).set 8 (g 8)).set 9 (g 9)).set 10 (g 10)).set 11 (g 11))
  refine h1.congr (all12 ?_ ?_ ?_ ?_ ?_ ?_ ?_ ?_ ?_ ?_ ?_ ?_) <;> simp

set_option maxHeartbeats 1000000 in
set_option maxRecDepth 100000 in
theorem sum7 (i ins ver st : ByteArray) (la : Option Addr) (ln lc : Nat) (LG : Nat → Nat → ByteArray) (ba : Option Addr) (bn bc : Nat) (BG : Nat → Nat → ByteArray) (d dl : Option Addr) (DF DLF : Nat → ByteArray) (bl : Bool) (w : World)
    (hln : ln ≤ 4096) (hbn : bn ≤ 4096) (hL : Rws w la ln 2 LG) (hB : Rws w ba bn 9 BG) (hD : Ptr w d 4 DF) (hDL : Ptr w dl 3 DLF) (hLG : ∀ i c, (LG i c).size ≤ maxLen) (hBG : ∀ i c, (BG i c).size ≤ maxLen)
    (hla : la = none → ln = 0 ∧ lc = 0) (hba : ba = none → bn = 0 ∧ bc = 0) :
    Calls Try.prog 7 #[.string i, .string ins, .string ver, .string st, .slice la ln lc, .slice ba bn bc, .pointer d, .pointer dl, .bool bl] w fun e w' =>
      ∃ lo bo d' dl', e = .returned (.agg #[.string i, .string ins, .string ver, .map lo, .int .u64 0, .int .i64 0, .pointer none, .string st, .map bo, .pointer d', .pointer dl', .bool bl]) ∧
        MpO rdS w' lo ln (labM LG ln) ∧ MpO rdB w' bo bn (bunM BG bn) ∧ lo.isNone = la.isNone ∧ Below w.heap.size w w' := by
  have q22 := fun (w : World) (a : Option Addr) (n c n' c' : Nat) => run_neq_slice_nil_any (P := Try.prog) w _ _ a n c n' c' Try.underlying22
  have q23 := fun (w : World) (a : Option Addr) (n c n' c' : Nat) => run_neq_slice_nil_any (P := Try.prog) w _ _ a n c n' c' Try.underlying23
  have hmk29 := run_makeMap_hint Try.underlying29
  have hmk34 := run_makeMap_hint Try.underlying34
  go_enter Try.func7, Try.ntmps7
  go_upto_if 31 with fail
  have hss := ss_start w (sval ⟨#[]⟩ ⟨#[]⟩ ⟨#[]⟩ none ⟨#[]⟩ none none none false) (sval i ins ver none st none none none bl)
    #[.string ⟨#[]⟩, .string ⟨#[]⟩, .string ⟨#[]⟩, .map none, .int .u64 0, .int .i64 0, .pointer none, .string ⟨#[]⟩, .map none, .pointer none, .pointer none, .bool false]
    #[.string i, .string ins, .string ver, .map none, .int .u64 0, .int .i64 0, .pointer none, .string st, .map none, .pointer none, .pointer none, .bool bl]
    rfl rfl (all12 rfl rfl rfl rfl rfl rfl rfl rfl rfl rfl rfl rfl) (all12 rfl rfl rfl rfl rfl rfl rfl rfl rfl rfl rfl rfl)
  generalize (w.alloc (.cells #[.string ⟨#[]⟩, .string ⟨#[]⟩, .string ⟨#[]⟩, .map none, .int .u64 0, .int .i64 0, .pointer none, .string ⟨#[]⟩, .map none, .pointer none, .pointer none, .bool false] 38)).alloc
    (.cells #[.string i, .string ins, .string ver, .map none, .int .u64 0, .int .i64 0, .pointer none, .string st, .map none, .pointer none, .pointer none, .bool bl] 38) = wa at hss ⊢
  go_cut [20] (fun _ wx => ∃ lo, SS w (sval i ins ver lo st none none none bl) wx ∧ MpO rdS wx lo ln (labM LG ln) ∧ lo.isNone = la.isNone ∧ (∀ b, lo = some b → w.heap.size + 2 ≤ b))
  case first =>
    cases la with
    | none =>
      obtain ⟨rfl, rfl⟩ := hla rfl
      go_wp2
      go_meet
      case rel => exact ⟨none, hss, Or.inl ⟨rfl, rfl⟩, rfl, fun b e => by cases e⟩
    | some x =>
      go_wp2
      go_loopw [21] (fun y wr => ∃ k : Nat, k ≤ ln ∧ y = .int .i64 (k : Int) ∧ SS w (sval i ins ver none st none none none bl) wr ∧ Mp rdS wr wa.heap.size k (labM LG k)) (fun y _ => ln - (intOf y).toNat)
      case atStart => exact ⟨0, Nat.zero_le _, rfl, hss.grown (World.grownBy_alloc _ _ none) (fun j hj => by cases hj), (mp_made rdS wa).congr (fun _ => rfl)⟩
      case round =>
        obtain ⟨k, hk, rfl, hsr, hout⟩ := hrel
        have hwa := hss.size
        by_cases hlt : k < ln
        · obtain ⟨b, off, ha, hb, hc⟩ := (hL.below hsr.bel).cells hlt
          have hc0 := hc 0 (by omega)
          simp only [Nat.add_zero] at hc0
          have hc1 := hc 1 (by omega)
          have hidx := run_row Try.underlying22 size55 ha ln lc k hlt
          clear ha hc
          obtain ⟨w2, hrun, hout2, hg2⟩ := hout.drew.store (r := rdS) Try.underlying29 (by unfold maxLen; omega) (LG k 0) (hLG k 0) (LG k 1)
          have hrun' : (Instr.mapUpdate 29 (.map (some wa.heap.size)) (.string (LG k 0)) (.string (LG k 1))).run Try.prog wr.drew = .ok () w2 := hrun
          clear hrun
          go_wp2
          go_region
          go_wp2
          go_roundw
          case rel => exact ⟨k + 1, by omega, by go_num, hsr.drew.grown hg2 (fun j hj => by cases hj; exact hwa), hout2.congr (fun x => congrFun (rowsMap_succ (nmOf LG) (fun i => LG i 1) k) x)⟩
          case measure => simp [intOf]; omega
        · obtain rfl : ln = k := by omega
          have hcell := hsr.sm.cell (i := 3) (by omega)
          have hfr := hsr.sm.frozen 3
          have hlt2 := hout.lt
          go_wp2
          go_meet
          case rel =>
            refine ⟨some wa.heap.size, hsr.set 3 _ (all12 rfl rfl rfl rfl rfl rfl rfl rfl rfl rfl rfl rfl), (hout.of_block (Below.heap_setCell _ _ _ _ (by simp; omega))).toO, rfl, fun b e => by cases e; exact hwa⟩
  case rest =>
    clear hss wa
    obtain ⟨lo, hss, hMl, hlo, hlob⟩ := hcut
    clear hL hLG hla
    go_upto_if 55 with fail
    obtain ⟨wb, rfl⟩ : ∃ wb : World, wb = wc := ⟨_, rfl⟩
    go_cut [22] (fun _ wx => ∃ bo, SS w (sval i ins ver lo st bo none none bl) wx ∧ MpO rdS wx lo ln (labM LG ln) ∧ MpO rdB wx bo bn (bunM BG bn) ∧ (∀ b, bo = some b → w.heap.size + 2 ≤ b))
    case first =>
      cases ba with
      | none =>
        obtain ⟨rfl, rfl⟩ := hba rfl
        go_wp2
        go_meet
        case rel => exact ⟨none, hss, hMl, Or.inl ⟨rfl, rfl⟩, fun b e => by cases e⟩
      | some x =>
        go_wp2
        go_loopw [23] (fun y wr => ∃ k : Nat, k ≤ bn ∧ y = .int .i64 (k : Int) ∧ SS w (sval i ins ver lo st none none none bl) wr ∧ MpO rdS wr lo ln (labM LG ln) ∧ Mp rdB wr wb.heap.size k (bunM BG k)) (fun y _ => bn - (intOf y).toNat)
        case atStart => exact ⟨0, Nat.zero_le _, rfl, hss.grown (World.grownBy_alloc _ _ none) (fun j hj => by cases hj), hMl.alloc _, (mp_made rdB wb).congr (fun _ => rfl)⟩
        case round =>
          have hwb := hss.size
          have hlolt := hMl.lt
          clear hss hMl
          obtain ⟨k, hk, rfl, hsr, hMl, hout⟩ := hrel
          by_cases hlt : k < bn
          · obtain ⟨b, off, ha, hb, hc⟩ := hB.cells hlt
            have hidx := run_row Try.underlying23 size57 ha bn bc k hlt
            obtain ⟨hc0, hc1, hc2, hc3, hc4, hc5, hc6, hc7, hc8⟩ := nine hsr.bel hb hc
            have HC : Hid (∀ c, c < 9 → w.cell? ⟨b, off + k * 9 + c, none⟩ = some (.string (BG k c))) := hc
            clear ha hc
            have hwr := hout.lt
            go_wp2
            go_region_held3 (fun w' => w'.cell? ⟨b, off + k * 9, none⟩ = some (.string (BG k 0)) ∧ w'.cell? ⟨b, off + k * 9 + 1, none⟩ = some (.string (BG k 1)) ∧ w'.cell? ⟨b, off + k * 9 + 2, none⟩ = some (.string (BG k 2)) ∧ w'.cell? ⟨b, off + k * 9 + 3, none⟩ = some (.string (BG k 3)) ∧ w'.cell? ⟨b, off + k * 9 + 4, none⟩ = some (.string (BG k 4)) ∧ w'.cell? ⟨b, off + k * 9 + 5, none⟩ = some (.string (BG k 5)) ∧ w'.cell? ⟨b, off + k * 9 + 6, none⟩ = some (.string (BG k 6)) ∧ w'.cell? ⟨b, off + k * 9 + 7, none⟩ = some (.string (BG k 7)) ∧ w'.cell? ⟨b, off + k * 9 + 8, none⟩ = some (.string (BG k 8))) (first | go_keep | exact nine hs4.bel hb HC.out | exact nine hs5.bel hb HC.out)
              (first | (go_at_call 19; refine (bundle19 (BG k 0) (BG k 1) (BG k 2) (BG k 3) (BG k 4) (BG k 5) (BG k 6) (BG k 7) (BG k 8) (BG k 3) wr.drew).mono ?_; rintro e w4 ⟨rfl, hb4⟩; have hg4 := grown_below hb4; have hs4 := hsr.drew.grown hg4 (fun j hj => by cases hj); obtain ⟨w5, hrun5, hout5, hg5⟩ := store_bun (hout.drew.kept hg4 (by simp)) (by unfold maxLen; omega) BG k (hBG k 0); have hs5 := hs4.grown hg5 (fun j hj => by cases hj; exact hwb)))
            go_wp2
            go_roundw
            case rel =>
              have hMl5 := (((show MpO rdS wr.drew lo ln (labM LG ln) from hMl).kept hg4 (fun b _ => by simp)).kept hg5 (fun b e h => by have := hlolt b e; have := Option.some.inj h; omega))
              have hout6 := hout5.congr (fun x => congrFun (rowsMap_succ (nmOf BG) (fun i => bunOf BG i (BG i 3)) k) x)
              (repeat apply Exists.intro)
              exact ⟨⟨k + 1, by omega, by go_num, hs5, hMl5, hout6⟩, rfl⟩
            case measure => simp [intOf]; omega
          · obtain rfl : bn = k := by omega
            have hcell := hsr.sm.cell (i := 8) (by omega)
            have hfr := hsr.sm.frozen 8
            have hlt2 := hout.lt
            go_wp2
            go_meet
            case rel =>
              refine ⟨some wb.heap.size, hsr.set 8 _ (all12 rfl rfl rfl rfl rfl rfl rfl rfl rfl rfl rfl rfl), hMl.of_blocks (fun b e => Below.heap_setCell _ _ _ _ (by have := hlob b e; simp; omega)), (hout.of_block (Below.heap_setCell _ _ _ _ (by simp; omega))).toO, fun b e => by cases e; exact hwb⟩
    case rest =>
      clear hss hMl wb
      obtain ⟨bo, hss, hMl, hMb, hbob⟩ := hcut
      clear hB hBG hba
      go_upto_if 84 with fail
      obtain ⟨wd, rfl⟩ : ∃ wd : World, wd = wc := ⟨_, rfl⟩
      go_cut [85] (fun _ wx => ∃ d', SS w (sval i ins ver lo st bo d' none bl) wx ∧ MpO rdS wx lo ln (labM LG ln) ∧ MpO rdB wx bo bn (bunM BG bn))
      case first =>
        rcases hD with rfl | ⟨b, off, rfl, hb, hc⟩
        · go_wp2
          go_meet
          case rel => exact ⟨none, hss, hMl, hMb⟩
        · have h : ∀ c, c < 4 → wd.cell? ⟨b, off + c, none⟩ = some (.string (DF c)) := fun c hcw => (hss.bel.cell (p := ⟨b, off + c, none⟩) hb).trans (hc c hcw)
          have hc0 := h 0 (by omega)
          simp only [Nat.add_zero] at hc0
          have hc1 := h 1 (by omega)
          have hc2 := h 2 (by omega)
          have hc3 := h 3 (by omega)
          clear h hc
          have hcell := fun x => (hss.sm.alloc x).cell (i := 9) (by omega)
          have hfr := fun x => (hss.sm.alloc x).frozen 9
          have hsz := hss.size
          go_wp2
          go_region
          go_wp2
          go_meet
          case rel =>
            refine ⟨some ⟨wd.heap.size, 0, none⟩, ((hss.grown (World.grownBy_alloc _ _ none) (fun j hj => by cases hj)).set 9 _ (all12 rfl rfl rfl rfl rfl rfl rfl rfl rfl rfl rfl rfl)).drew, ?_, ?_⟩
            · exact (hMl.alloc _).of_blocks (fun b e => Below.heap_setCell _ _ _ _ (by have := hlob b e; simp; omega))
            · exact (hMb.alloc _).of_blocks (fun b e => Below.heap_setCell _ _ _ _ (by have := hbob b e; simp; omega))
      case rest =>
        clear hss hMl hMb wd
        obtain ⟨d', hss, hMl, hMb⟩ := hcut
        clear hD
        go_upto_if 105 with fail
        obtain ⟨wd, rfl⟩ : ∃ wd : World, wd = wc := ⟨_, rfl⟩
        go_cut [106] (fun _ wx => ∃ dl', SS w (sval i ins ver lo st bo d' dl' bl) wx ∧ MpO rdS wx lo ln (labM LG ln) ∧ MpO rdB wx bo bn (bunM BG bn))
        case first =>
          rcases hDL with rfl | ⟨b, off, rfl, hb, hc⟩
          · go_wp2
            go_meet
            case rel => exact ⟨none, hss, hMl, hMb⟩
          · have h : ∀ c, c < 3 → wd.cell? ⟨b, off + c, none⟩ = some (.string (DLF c)) := fun c hcw => (hss.bel.cell (p := ⟨b, off + c, none⟩) hb).trans (hc c hcw)
            have hc0 := h 0 (by omega)
            simp only [Nat.add_zero] at hc0
            have hc1 := h 1 (by omega)
            have hc2 := h 2 (by omega)
            clear h hc
            have hcell := fun x => (hss.sm.alloc x).cell (i := 10) (by omega)
            have hfr := fun x => (hss.sm.alloc x).frozen 10
            have hsz := hss.size
            go_wp2
            go_region
            go_wp2
            go_meet
            case rel =>
              refine ⟨some ⟨wd.heap.size, 0, none⟩, ((hss.grown (World.grownBy_alloc _ _ none) (fun j hj => by cases hj)).set 10 _ (all12 rfl rfl rfl rfl rfl rfl rfl rfl rfl rfl rfl rfl)).drew, ?_, ?_⟩
              · exact (hMl.alloc _).of_blocks (fun b e => Below.heap_setCell _ _ _ _ (by have := hlob b e; simp; omega))
              · exact (hMb.alloc _).of_blocks (fun b e => Below.heap_setCell _ _ _ _ (by have := hbob b e; simp; omega))
        case rest =>
            clear hss hMl hMb wd
            obtain ⟨dl', hss, hMl, hMb⟩ := hcut
            clear hDL q22 q23 hmk29 hmk34
            obtain ⟨f, hf⟩ := hss.res
            have s0 : wc.cell? ⟨w.heap.size + 1, 0, none⟩ = some (.string i) := hss.sm.cell (i := 0) (by omega)
            have s1 : wc.cell? ⟨w.heap.size + 1, 1, none⟩ = some (.string ins) := hss.sm.cell (i := 1) (by omega)
            have s2 : wc.cell? ⟨w.heap.size + 1, 2, none⟩ = some (.string ver) := hss.sm.cell (i := 2) (by omega)
            have s3 : wc.cell? ⟨w.heap.size + 1, 3, none⟩ = some (.map lo) := hss.sm.cell (i := 3) (by omega)
            have s4 : wc.cell? ⟨w.heap.size + 1, 4, none⟩ = some (.int .u64 0) := hss.sm.cell (i := 4) (by omega)
            have s5 : wc.cell? ⟨w.heap.size + 1, 5, none⟩ = some (.int .i64 0) := hss.sm.cell (i := 5) (by omega)
            have s6 : wc.cell? ⟨w.heap.size + 1, 6, none⟩ = some (.pointer none) := hss.sm.cell (i := 6) (by omega)
            have s7 : wc.cell? ⟨w.heap.size + 1, 7, none⟩ = some (.string st) := hss.sm.cell (i := 7) (by omega)
            have s8 : wc.cell? ⟨w.heap.size + 1, 8, none⟩ = some (.map bo) := hss.sm.cell (i := 8) (by omega)
            have s9 : wc.cell? ⟨w.heap.size + 1, 9, none⟩ = some (.pointer d') := hss.sm.cell (i := 9) (by omega)
            have s10 : wc.cell? ⟨w.heap.size + 1, 10, none⟩ = some (.pointer dl') := hss.sm.cell (i := 10) (by omega)
            have s11 : wc.cell? ⟨w.heap.size + 1, 11, none⟩ = some (.bool bl) := hss.sm.cell (i := 11) (by omega)
            have r0 := hf.cell (i := 0) (by omega)
            have f0 := hf.frozen 0
            have r1 := hf.cell (i := 1) (by omega)
            have f1 := hf.frozen 1
            have r2 := hf.cell (i := 2) (by omega)
            have f2 := hf.frozen 2
            have r3 := hf.cell (i := 3) (by omega)
            have f3 := hf.frozen 3
            have r4 := hf.cell (i := 4) (by omega)
            have f4 := hf.frozen 4
            have r5 := hf.cell (i := 5) (by omega)
            have f5 := hf.frozen 5
            have r6 := hf.cell (i := 6) (by omega)
            have f6 := hf.frozen 6
            have r7 := hf.cell (i := 7) (by omega)
            have f7 := hf.frozen 7
            have r8 := hf.cell (i := 8) (by omega)
            have f8 := hf.frozen 8
            have r9 := hf.cell (i := 9) (by omega)
            have f9 := hf.frozen 9
            have r10 := hf.cell (i := 10) (by omega)
            have f10 := hf.frozen 10
            have r11 := hf.cell (i := 11) (by omega)
            have f11 := hf.frozen 11
            go_wp2
            have hz := set12_row hf (sval i ins ver lo st bo d' dl' bl)
            have hbz := set12_below hss.bel (Nat.le_refl _) (sval i ins ver lo st bo d' dl' bl)
            have hMlz := hMl.of_blocks (w' := set12 wc w.heap.size (sval i ins ver lo st bo d' dl' bl)) (fun b e => set12_block _ _ _ _ (by have := hlob b e; omega))
            have hMbz := hMb.of_blocks (w' := set12 wc w.heap.size (sval i ins ver lo st bo d' dl' bl)) (fun b e => set12_block _ _ _ _ (by have := hbob b e; omega))
            change bodyPost _ _ _ _ _ (set12 wc w.heap.size (sval i ins ver lo st bo d' dl' bl))
            clear hf s0 s1 s2 s3 s4 s5 s6 s7 s8 s9 s10 s11 r0 r1 r2 r3 r4 r5 r6 r7 r8 r9 r10 r11 f0 f1 f2 f3 f4 f5 f6 f7 f8 f9 f10 f11
            generalize set12 wc w.heap.size (sval i ins ver lo st bo d' dl' bl) = wz at *
            have z0 : wz.cell? ⟨w.heap.size, 0, none⟩ = some (.string i) := hz.cell (i := 0) (by omega)
            have z1 : wz.cell? ⟨w.heap.size, 1, none⟩ = some (.string ins) := hz.cell (i := 1) (by omega)
            have z2 : wz.cell? ⟨w.heap.size, 2, none⟩ = some (.string ver) := hz.cell (i := 2) (by omega)
            have z3 : wz.cell? ⟨w.heap.size, 3, none⟩ = some (.map lo) := hz.cell (i := 3) (by omega)
            have z4 : wz.cell? ⟨w.heap.size, 4, none⟩ = some (.int .u64 0) := hz.cell (i := 4) (by omega)
            have z5 : wz.cell? ⟨w.heap.size, 5, none⟩ = some (.int .i64 0) := hz.cell (i := 5) (by omega)
            have z6 : wz.cell? ⟨w.heap.size, 6, none⟩ = some (.pointer none) := hz.cell (i := 6) (by omega)
            have z7 : wz.cell? ⟨w.heap.size, 7, none⟩ = some (.string st) := hz.cell (i := 7) (by omega)
            have z8 : wz.cell? ⟨w.heap.size, 8, none⟩ = some (.map bo) := hz.cell (i := 8) (by omega)
            have z9 : wz.cell? ⟨w.heap.size, 9, none⟩ = some (.pointer d') := hz.cell (i := 9) (by omega)
            have z10 : wz.cell? ⟨w.heap.size, 10, none⟩ = some (.pointer dl') := hz.cell (i := 10) (by omega)
            have z11 : wz.cell? ⟨w.heap.size, 11, none⟩ = some (.bool bl) := hz.cell (i := 11) (by omega)
            exact bodyPost_ret (v := .agg #[.string i, .string ins, .string ver, .map lo, .int .u64 0, .int .i64 0, .pointer none, .string st, .map bo, .pointer d', .pointer dl', .bool bl]) (by simp [results, Try.results7, go_sem, z0, z1, z2, z3, z4, z5, z6, z7, z8, z9, z10, z11]) rfl ⟨lo, bo, d', dl', rfl, hMlz, hMbz, hlo, hbz⟩

end Go.Proofs.Qxb6608572a

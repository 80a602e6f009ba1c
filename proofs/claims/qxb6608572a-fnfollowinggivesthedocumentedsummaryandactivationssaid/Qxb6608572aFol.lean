import Derived.Test.Qxb6608572aSum
namespace Go.Proofs.Qxb6608572a
open Go.ChangeShapes Go.WideShapes Go.ChangeAt Go.RowKit Go.WideMaps Go.Maps

/-! ### what Following comes to, plainly -/
def shownM (BM : Text → Option Bun) (x : Text) : Option Avn :=
  match BM x with
  | none => none
  | some b => if b.first.toList.isEmpty then none else some ⟨b.rev, b.first⟩

def newB (b : Bun) (a : Option Avn) : Bun :=
  match a with
  | none => b
  | some a => if a.rev.toList == b.rev.toList then ⟨b.rev, b.typ, a.first, b.last, b.code, b.msg, b.http, b.commit⟩ else b

def newM (BM : Text → Option Bun) (AM : Text → Option Avn) (x : Text) : Option Bun := (BM x).map fun b => newB b (AM x)

section
variable {V W : Type}
theorem g_start (BM : Text → Option V) (F : Text → Option W) (hF : ∀ x, BM x = none → F x = none) : (fun _ => none) = fun x => if (BM x).isSome then none else F x := by
  funext x
  cases h : BM x
  · simp [hF x h]
  · simp
theorem g_store (F : Text → Option W) (left : Text → Bool) (s : Text) (v : W) (hv : F s = some v) :
    upd (fun x => if left x then none else F x) s v = fun x => if (left x && !(x == s)) then none else F x := by
  funext x
  unfold upd
  by_cases h : x = s
  · subst h; simp [hv]
  · simp [h]
theorem g_stay (F : Text → Option W) (left : Text → Bool) (s : Text) (hv : F s = none) :
    (fun x => if left x then none else F x) = fun x => if (left x && !(x == s)) then none else F x := by
  funext x
  by_cases h : x = s
  · subst h; simp [hv]
  · simp [h]
theorem g_end (F : Text → Option W) (left : Text → Bool) (h : ∀ x, left x = false) : (fun x => if left x then none else F x) = F := by
  funext x; simp [h x]
end

/-- The world while Following runs: its own copy v of the summary, its result's cell, nothing old turned. -/
structure FS (w : World) (v : Nat → Value) (wr : World) : Prop where
  sm : wr.rowIs w.heap.size 38 12 v
  res : ∃ f, wr.rowIs (w.heap.size + 1) 38 12 f
  bel : Below w.heap.size w wr

theorem FS.grown {w : World} {v : Nat → Value} {wr w' : World} {row : Option Nat} (h : FS w v wr) (hg : wr.grownBy w' row) (hr : ∀ j, row = some j → w.heap.size + 2 ≤ j) : FS w v w' := by
  obtain ⟨f, hf⟩ := h.res
  exact ⟨h.sm.of_block (hg.block _ h.sm.lt (fun e => by have := hr _ e.symm; omega)), ⟨f, hf.of_block (hg.block _ hf.lt (fun e => by have := hr _ e.symm; omega))⟩, h.bel.grown hg h.bel.size (fun j hj => by have := hr j hj; omega)⟩

theorem FS.alloc {w : World} {v : Nat → Value} {wr : World} (h : FS w v wr) (o : Obj) : FS w v (wr.alloc o) := h.grown (World.grownBy_alloc _ _ none) (fun j hj => by cases hj)

theorem FS.size {w : World} {v : Nat → Value} {wr : World} (h : FS w v wr) : w.heap.size + 2 ≤ wr.heap.size := by
  obtain ⟨f, hf⟩ := h.res
  have := hf.lt
  omega

theorem FS.set {w : World} {v : Nat → Value} {wr : World} (h : FS w v wr) (k : Nat) (x : Value) {v' : Nat → Value} (e : ∀ j, j < 12 → (if j = k then x else v j) = v' j) : FS w v' (wr.setCell ⟨w.heap.size, k, none⟩ x) := by
  obtain ⟨f, hf⟩ := h.res
  exact ⟨(h.sm.set k x).congr e, ⟨f, hf.setOther (by simp) x⟩, h.bel.setCell (by simp) x⟩

theorem fs_start (w : World) (f v : Nat → Value) (a c : Array Value) (ha : a.size = 12) (hc : c.size = 12) (hf : ∀ j, j < 12 → a[j]? = some (v j)) (hv : ∀ j, j < 12 → c[j]? = some (f j)) : FS w v ((w.alloc (.cells a 38)).alloc (.cells c 38)) := by
  have h1 := World.rowIs_alloc w a 38 v (by rw [ha]; exact hf)
  have h2 := World.rowIs_alloc (w.alloc (.cells a 38)) c 38 f (by rw [hc]; exact hv)
  rw [ha] at h1
  rw [hc] at h2
  have e : (w.alloc (.cells a 38)).heap.size = w.heap.size + 1 := by simp
  rw [e] at h2
  exact ⟨h1.alloc _, ⟨f, h2⟩, ((Below.refl _ _).alloc (Nat.le_refl _) _).alloc (by simp) _⟩

set_option maxHeartbeats 1000000 in
set_option maxRecDepth 100000 in
theorem fol8 (i ins ver : ByteArray) (lo : Option Nat) (st : ByteArray) (bo : Option Nat) (d dl : Option Addr) (bl : Bool) (ko : Option Nat) (l : ByteArray) (ln bn kn : Nat) (LM : Text → Option ByteArray) (BM : Text → Option Bun) (KM : Text → Option Avn) (w : World)
    (hl : l.size ≤ maxLen) (hn : bn + kn ≤ 50000) (hL : MpO rdS w lo ln LM) (hB : MpO rdB w bo bn BM) (hK : MpO rdA w ko kn KM) :
    Calls Try.prog 8 #[.agg #[.string i, .string ins, .string ver, .map lo, .int .u64 0, .int .i64 0, .pointer none, .string st, .map bo, .pointer d, .pointer dl, .bool bl], .map ko, .string l] w fun e w' =>
      ∃ nb af, e = .returned (.tuple #[.agg #[.string (idOf LM l), .string ((LM idStr.toList).getD ByteArray.empty), .string ver, .map lo, .int .u64 0, .int .i64 0, .pointer none, .string st, .map (some nb), .pointer d, .pointer dl, .bool bl], .map (some af)]) ∧
        Mp rdB w' nb bn (newM BM (thenM KM (shownM BM))) ∧ Mp rdA w' af (kn + bn) (thenM KM (shownM BM)) ∧ Below w.heap.size w w' ∧ w.heap.size ≤ nb ∧ w.heap.size ≤ af := by
  have hLlt := hL.lt
  have hBlt := hB.lt
  have hKlt := hK.lt
  have hmm := @run_makeMap Try.prog
  go_enter Try.func8, Try.ntmps8
  go_wp2_with fail
  have hfs := fs_start w (sval ⟨#[]⟩ ⟨#[]⟩ ⟨#[]⟩ none ⟨#[]⟩ none none none false) (sval i ins ver lo st bo d dl bl)
    #[.string i, .string ins, .string ver, .map lo, .int .u64 0, .int .i64 0, .pointer none, .string st, .map bo, .pointer d, .pointer dl, .bool bl]
    #[.string ⟨#[]⟩, .string ⟨#[]⟩, .string ⟨#[]⟩, .map none, .int .u64 0, .int .i64 0, .pointer none, .string ⟨#[]⟩, .map none, .pointer none, .pointer none, .bool false]
    rfl rfl (all12 rfl rfl rfl rfl rfl rfl rfl rfl rfl rfl rfl rfl) (all12 rfl rfl rfl rfl rfl rfl rfl rfl rfl rfl rfl rfl)
  refine (agent20 i ins ver lo st bo d dl bl l ln LM _ hl ((hL.alloc _).alloc _)).mono ?_
  rintro e w1 ⟨rfl, hb1⟩
  have hf1 := hfs.grown (grown_below hb1) (fun j hj => by cases hj)
  clear hfs hb1
  have s0 : w1.cell? ⟨w.heap.size, 0, none⟩ = some (.string i) := hf1.sm.cell (i := 0) (by omega)
  have s1 : w1.cell? ⟨w.heap.size, 1, none⟩ = some (.string ins) := hf1.sm.cell (i := 1) (by omega)
  have s3 : w1.cell? ⟨w.heap.size, 3, none⟩ = some (.map lo) := hf1.sm.cell (i := 3) (by omega)
  have s8 : w1.cell? ⟨w.heap.size, 8, none⟩ = some (.map bo) := hf1.sm.cell (i := 8) (by omega)
  have z0 := hf1.sm.frozen 0
  have z1 := hf1.sm.frozen 1
  have hL1 : MpO rdS (w1.setCell ⟨w.heap.size, 0, none⟩ (.string (idOf LM l))) lo ln LM := hL.of_blocks (fun b e => (Below.heap_setCell _ _ _ _ (by have := hLlt b e; simp; omega)).trans (hf1.bel.block b (hLlt b e)))
  have hlook : (Instr.lookup 29 (.map lo) (.string ⟨#[105, 100]⟩) false).run Try.prog (w1.setCell ⟨w.heap.size, 0, none⟩ (.string (idOf LM l))) = .ok (.string ((LM idStr.toList).getD ByteArray.empty)) (w1.setCell ⟨w.heap.size, 0, none⟩ (.string (idOf LM l))) := hL1.look Try.underlying29 (zero9 _) idStr idStr_size
  go_upto_region 3 with fail
  have hf2 : FS w (sval (idOf LM l) ((LM idStr.toList).getD ByteArray.empty) ver lo st bo d dl bl) ((w1.setCell ⟨w.heap.size, 0, none⟩ (.string (idOf LM l))).setCell ⟨w.heap.size, 1, none⟩ (.string ((LM idStr.toList).getD ByteArray.empty))) :=
    (hf1.set 0 _ (v' := sval (idOf LM l) ins ver lo st bo d dl bl) (all12 rfl rfl rfl rfl rfl rfl rfl rfl rfl rfl rfl rfl)).set 1 _ (all12 rfl rfl rfl rfl rfl rfl rfl rfl rfl rfl rfl rfl)
  generalize hw2 : (w1.setCell ⟨w.heap.size, 0, none⟩ (.string (idOf LM l))).setCell ⟨w.heap.size, 1, none⟩ (.string ((LM idStr.toList).getD ByteArray.empty)) = w2 at hf2 ⊢
  clear hw2 hf1 s0 s1 s3 s8 z0 z1 hL1 hlook
  have s8 : ∀ x, (w2.alloc x).cell? ⟨w.heap.size, 8, none⟩ = some (.map bo) := fun x => (hf2.alloc x).sm.cell (i := 8) (by omega)
  have hsz2 := hf2.size
  have hB2 : MpO rdB (w2.alloc (.map #[] 0)) bo bn BM := hB.of_blocks (fun b e => (hf2.alloc _).bel.block b (hBlt b e))
  go_wp2_with (first
    | (at_range; refine wpList_range _ rfl _ 34 rfl 68 Try.underlying34 bo bn BM rfl hB2 ?_; intro w3 cnt3 hrg3 hc3 hg3 hs3)
    | go_in)
  go_frame
  have e3 : (w2.alloc (.map #[] 0)).heap.size = w2.heap.size + 1 := by simp
  rw [e3] at hrg3 hs3 ⊢
  go_loopw [9] (fun _ wr => ∃ (left : Text → Bool) (cnt k : Nat), Rg rdB wr bo (w2.heap.size + 1) bn BM left cnt ∧ k + cnt ≤ bn ∧ Mp rdA wr w2.heap.size k (fun x => if left x then none else shownM BM x) ∧ FS w (sval (idOf LM l) ((LM idStr.toList).getD ByteArray.empty) ver lo st bo d dl bl) wr ∧ w2.heap.size + 2 ≤ wr.heap.size) (fun _ wr => rgLeft wr bo (w2.heap.size + 1))
  case atStart =>
    refine ⟨_, cnt3, 0, hrg3, by omega, ?_, (hf2.alloc _).grown hg3 (fun j hj => by cases hj), by omega⟩
    exact ((mp_made rdA w2).kept hg3 (by simp)).congr (fun x => congrFun (g_start BM (shownM BM) (fun x h => by simp [shownM, h])) x)
  case round =>
    clear hB2 hrg3 hg3 e3 s8
    obtain ⟨left, cnt, k, hrg, hkc, hout, hfr, hwr⟩ := hrel
    go_wp2_with (first
      | (at_next; refine wpList_nextB _ rfl _ rfl bo (w2.heap.size + 1) bn BM left cnt rfl hrg ?_ ?_)
      | go_in)
    · intro hc hl0
      have hout' := hout.congr (fun x => congrFun (g_end (shownM BM) left hl0) x)
      have hK' : MpO rdA wr ko kn KM := hK.of_blocks (fun b e => hfr.bel.block b (hKlt b e))
      go_wp2_with fail
      refine (then21 ko (some w2.heap.size) kn bn KM (shownM BM) _ (by omega) hK' (hout'.mono (by omega)).toO).mono ?_
      rintro e w5 ⟨rfl, hA5, hb5⟩
      have hf5 := hfr.grown (grown_below hb5) (fun j hj => by cases hj)
      have hsz5 := hf5.size
      have hA5lt := hA5.lt
      have hsz6 := hfr.size
      clear hfr hout hout' hK' hrg hb5
      obtain ⟨wo, rfl⟩ : ∃ wo : World, wo = wr := ⟨_, rfl⟩
      obtain ⟨AM, hAM⟩ : ∃ AM, AM = thenM KM (shownM BM) := ⟨_, rfl⟩
      rw [← hAM] at hA5
      have HAM : Hid (AM = thenM KM (shownM BM)) := hAM
      clear hAM
      have hB5 : MpO rdB w5 bo bn BM := hB.of_blocks (fun b e => hf5.bel.block b (hBlt b e))
      obtain ⟨LB, hLB, hlb⟩ := hB5.keys
      have hlenB := hB5.len Try.underlying34 hLB
      have hmk := run_makeMap_hint Try.underlying34
      have s8 : w5.cell? ⟨w.heap.size, 8, none⟩ = some (.map bo) := hf5.sm.cell (i := 8) (by omega)
      have s8' : ∀ x, (w5.alloc x).cell? ⟨w.heap.size, 8, none⟩ = some (.map bo) := fun x => (hf5.alloc x).sm.cell (i := 8) (by omega)
      clear hLB
      go_wp2_with (first
        | (at_range; refine wpList_range _ rfl _ 34 rfl 68 Try.underlying34 bo bn BM rfl (hB5.alloc _) ?_; intro w3 cnt3 hrg3 hc3 hg3 hs3)
        | go_in)
      go_frame
      have e3 : (w5.alloc (.map #[] 0)).heap.size = w5.heap.size + 1 := by simp
      rw [e3] at hrg3 hs3 ⊢
      go_loopw [13] (fun _ wr => ∃ (left : Text → Bool) (cnt k : Nat), Rg rdB wr bo (w5.heap.size + 1) bn BM left cnt ∧ k + cnt ≤ bn ∧ Mp rdB wr w5.heap.size k (fun x => if left x then none else newM BM AM x) ∧ Mp rdA wr wo.heap.size (kn + bn) AM ∧ FS w (sval (idOf LM l) ((LM idStr.toList).getD ByteArray.empty) ver lo st bo d dl bl) wr ∧ w5.heap.size + 2 ≤ wr.heap.size) (fun _ wr => rgLeft wr bo (w5.heap.size + 1))
      case atStart =>
        refine ⟨_, cnt3, 0, hrg3, by omega, ?_, (hA5.alloc _).kept hg3 (by simp), (hf5.alloc _).grown hg3 (fun j hj => by cases hj), by omega⟩
        exact ((mp_made rdB w5).kept hg3 (by simp)).congr (fun x => congrFun (g_start BM (newM BM AM) (fun x h => by simp [newM, h])) x)
      case round =>
        clear hB5 hrg3 hg3 e3 s8 s8' hlenB hmk hf5 hA5
        obtain ⟨left, cnt, k, hrg, hkc, hout, hA, hfr, hwr⟩ := hrel
        go_wp2_with (first
          | (at_next; refine wpList_nextB _ rfl _ rfl bo (w5.heap.size + 1) bn BM left cnt rfl hrg ?_ ?_)
          | go_in)
        · intro hc hl0
          have hout' := hout.congr (fun x => congrFun (g_end (newM BM AM) left hl0) x)
          have s8 : wr.cell? ⟨w.heap.size, 8, none⟩ = some (.map bo) := hfr.sm.cell (i := 8) (by omega)
          have z8 := hfr.sm.frozen 8
          go_upto_region 19 with fail
          have hf7 : FS w (sval (idOf LM l) ((LM idStr.toList).getD ByteArray.empty) ver lo st (some w5.heap.size) d dl bl) (wr.setCell ⟨w.heap.size, 8, none⟩ (.map (some w5.heap.size))) := hfr.set 8 _ (all12 rfl rfl rfl rfl rfl rfl rfl rfl rfl rfl rfl rfl)
          have hout7 : Mp rdB (wr.setCell ⟨w.heap.size, 8, none⟩ (.map (some w5.heap.size))) w5.heap.size k (newM BM AM) := hout'.of_block (Below.heap_setCell _ _ _ _ (by simp; omega))
          have hA7 : Mp rdA (wr.setCell ⟨w.heap.size, 8, none⟩ (.map (some w5.heap.size))) wo.heap.size (kn + bn) AM := hA.of_block (Below.heap_setCell _ _ _ _ (by simp; omega))
          generalize hw7 : wr.setCell ⟨w.heap.size, 8, none⟩ (.map (some w5.heap.size)) = w7 at hf7 hout7 hA7 ⊢
          clear hw7 s8 z8 hfr hout hout' hA hrg
          obtain ⟨f, hf⟩ := hf7.res
          have s0 : w7.cell? ⟨w.heap.size, 0, none⟩ = some (.string (idOf LM l)) := hf7.sm.cell (i := 0) (by omega)
          have s1 : w7.cell? ⟨w.heap.size, 1, none⟩ = some (.string ((LM idStr.toList).getD ByteArray.empty)) := hf7.sm.cell (i := 1) (by omega)
          have s2 : w7.cell? ⟨w.heap.size, 2, none⟩ = some (.string ver) := hf7.sm.cell (i := 2) (by omega)
          have s3 : w7.cell? ⟨w.heap.size, 3, none⟩ = some (.map lo) := hf7.sm.cell (i := 3) (by omega)
          have s4 : w7.cell? ⟨w.heap.size, 4, none⟩ = some (.int .u64 0) := hf7.sm.cell (i := 4) (by omega)
          have s5 : w7.cell? ⟨w.heap.size, 5, none⟩ = some (.int .i64 0) := hf7.sm.cell (i := 5) (by omega)
          have s6 : w7.cell? ⟨w.heap.size, 6, none⟩ = some (.pointer none) := hf7.sm.cell (i := 6) (by omega)
          have s7 : w7.cell? ⟨w.heap.size, 7, none⟩ = some (.string st) := hf7.sm.cell (i := 7) (by omega)
          have s8 : w7.cell? ⟨w.heap.size, 8, none⟩ = some (.map (some w5.heap.size)) := hf7.sm.cell (i := 8) (by omega)
          have s9 : w7.cell? ⟨w.heap.size, 9, none⟩ = some (.pointer d) := hf7.sm.cell (i := 9) (by omega)
          have s10 : w7.cell? ⟨w.heap.size, 10, none⟩ = some (.pointer dl) := hf7.sm.cell (i := 10) (by omega)
          have s11 : w7.cell? ⟨w.heap.size, 11, none⟩ = some (.bool bl) := hf7.sm.cell (i := 11) (by omega)
          have r0 := hf.cell (i := 0) (by omega)
          have f0 := hf.frozen 0
          have r1 := hf.cell (i := 1) (by omega)
          have f1 := hf.frozen 1
          have r2 := hf.cell (i := 2) (by omega)
          have f2 := hf.frozen 2
          have r3 := hf.cell (i := 3) (by omega)
          have f3 := hf.frozen 3
          have r4 := hf.cell (i := 4) (by omega)
          have f4 := hf.frozen 4
          have r5 := hf.cell (i := 5) (by omega)
          have f5 := hf.frozen 5
          have r6 := hf.cell (i := 6) (by omega)
          have f6 := hf.frozen 6
          have r7 := hf.cell (i := 7) (by omega)
          have f7 := hf.frozen 7
          have r8 := hf.cell (i := 8) (by omega)
          have f8 := hf.frozen 8
          have r9 := hf.cell (i := 9) (by omega)
          have f9 := hf.frozen 9
          have r10 := hf.cell (i := 10) (by omega)
          have f10 := hf.frozen 10
          have r11 := hf.cell (i := 11) (by omega)
          have f11 := hf.frozen 11
          go_wp2
          have hz := set12_row hf (sval (idOf LM l) ((LM idStr.toList).getD ByteArray.empty) ver lo st (some w5.heap.size) d dl bl)
          have hbz := set12_below hf7.bel (Nat.le_succ _) (sval (idOf LM l) ((LM idStr.toList).getD ByteArray.empty) ver lo st (some w5.heap.size) d dl bl)
          have hBz := hout7.of_block (w' := set12 w7 (w.heap.size + 1) (sval (idOf LM l) ((LM idStr.toList).getD ByteArray.empty) ver lo st (some w5.heap.size) d dl bl)) (set12_block _ _ _ _ (by omega))
          have hAz := hA7.of_block (w' := set12 w7 (w.heap.size + 1) (sval (idOf LM l) ((LM idStr.toList).getD ByteArray.empty) ver lo st (some w5.heap.size) d dl bl)) (set12_block _ _ _ _ (by omega))
          change bodyPost _ _ _ _ _ (set12 w7 (w.heap.size + 1) (sval (idOf LM l) ((LM idStr.toList).getD ByteArray.empty) ver lo st (some w5.heap.size) d dl bl))
          clear hf s0 s1 s2 s3 s4 s5 s6 s7 s8 s9 s10 s11 r0 r1 r2 r3 r4 r5 r6 r7 r8 r9 r10 r11 f0 f1 f2 f3 f4 f5 f6 f7 f8 f9 f10 f11
          generalize set12 w7 (w.heap.size + 1) (sval (idOf LM l) ((LM idStr.toList).getD ByteArray.empty) ver lo st (some w5.heap.size) d dl bl) = wz at *
          have z0 : wz.cell? ⟨w.heap.size + 1, 0, none⟩ = some (.string (idOf LM l)) := hz.cell (i := 0) (by omega)
          have z1 : wz.cell? ⟨w.heap.size + 1, 1, none⟩ = some (.string ((LM idStr.toList).getD ByteArray.empty)) := hz.cell (i := 1) (by omega)
          have z2 : wz.cell? ⟨w.heap.size + 1, 2, none⟩ = some (.string ver) := hz.cell (i := 2) (by omega)
          have z3 : wz.cell? ⟨w.heap.size + 1, 3, none⟩ = some (.map lo) := hz.cell (i := 3) (by omega)
          have z4 : wz.cell? ⟨w.heap.size + 1, 4, none⟩ = some (.int .u64 0) := hz.cell (i := 4) (by omega)
          have z5 : wz.cell? ⟨w.heap.size + 1, 5, none⟩ = some (.int .i64 0) := hz.cell (i := 5) (by omega)
          have z6 : wz.cell? ⟨w.heap.size + 1, 6, none⟩ = some (.pointer none) := hz.cell (i := 6) (by omega)
          have z7 : wz.cell? ⟨w.heap.size + 1, 7, none⟩ = some (.string st) := hz.cell (i := 7) (by omega)
          have z8 : wz.cell? ⟨w.heap.size + 1, 8, none⟩ = some (.map (some w5.heap.size)) := hz.cell (i := 8) (by omega)
          have z9 : wz.cell? ⟨w.heap.size + 1, 9, none⟩ = some (.pointer d) := hz.cell (i := 9) (by omega)
          have z10 : wz.cell? ⟨w.heap.size + 1, 10, none⟩ = some (.pointer dl) := hz.cell (i := 10) (by omega)
          have z11 : wz.cell? ⟨w.heap.size + 1, 11, none⟩ = some (.bool bl) := hz.cell (i := 11) (by omega)
          rw [HAM.out] at hBz hAz
          exact bodyPost_ret (v := .tuple #[.agg #[.string (idOf LM l), .string ((LM idStr.toList).getD ByteArray.empty), .string ver, .map lo, .int .u64 0, .int .i64 0, .pointer none, .string st, .map (some w5.heap.size), .pointer d, .pointer dl, .bool bl], .map (some wo.heap.size)]) (by simp [results, Try.results8, go_sem, z0, z1, z2, z3, z4, z5, z6, z7, z8, z9, z10, z11]) rfl ⟨w5.heap.size, wo.heap.size, rfl, hBz.mono (by omega), hAz, hbz, by omega, by omega⟩
        · intro s v w4 cnt4 hs hls hBv hrg4 hlt4 hg4 hs4 hen
          have hout4 := hout.kept hg4 (by simp)
          have hA4 := hA.kept hg4 (by simp; omega)
          have hf4 := hfr.grown hg4 (fun j hj => by cases hj; omega)
          cases hav : AM s.toList with
          | none =>
            have HT : Hid (newM BM AM s.toList = some v) := by simp only [Hid, newM, hBv, hav, Option.map_some, newB]
            have hlook : ∀ x : Obj, (Instr.lookup 41 (.map (some wo.heap.size)) (.string s) true).run Try.prog (w4.alloc x) = .ok (.tuple #[.agg #[.string ByteArray.empty, .string ByteArray.empty], .bool false]) (w4.alloc x) := fun x => (hA4.alloc x).toO.look_no Try.underlying41 (zero76 _) s hs hav
            clear hav
            go_wp2_with (first
              | (at_mapUpdate; refine wpList_store (r := rdB) _ rfl _ _ _ 34 rfl 68 Try.underlying34 w5.heap.size k _ rfl ((hout4.alloc _).alloc _) (by unfold maxLen; omega) s v rfl hs rfl ?_; intro w6 hout6 hg6; go_frame)
              | go_in)
            have hrg6 := ((hrg4.alloc _).alloc _).kept hg6 (fun b e h => by have := hBlt b e; have := Option.some.inj h; omega) (by simp)
            have hs6 := hg6.size
            simp at hs6
            refine ⟨⟨_, cnt4, k + 1, hrg6, by omega, hout6.congr (fun x => congrFun (g_store (newM BM AM) left s.toList _ HT.out) x), ((hA4.alloc _).alloc _).kept hg6 (by simp; omega), ((hf4.alloc _).alloc _).grown hg6 (fun j hj => by cases hj; exact hsz5), by omega⟩, by rw [hrg6.left_eq, hrg.left_eq]; exact hlt4⟩
          | some av =>
            have hlook : ∀ x : Obj, (Instr.lookup 41 (.map (some wo.heap.size)) (.string s) true).run Try.prog (w4.alloc x) = .ok (.tuple #[.agg #[.string av.rev, .string av.first], .bool true]) (w4.alloc x) := fun x => (hA4.alloc x).toO.look_yes Try.underlying41 (zero76 _) s hs hav
            cases hrv : (av.rev.toList == v.rev.toList)
            · have HT : Hid (newM BM AM s.toList = some v) := by simp only [Hid, newM, hBv, hav, Option.map_some, newB, hrv]; rfl
              clear hav
              go_wp2_with (first
                | (at_mapUpdate; refine wpList_store (r := rdB) _ rfl _ _ _ 34 rfl 68 Try.underlying34 w5.heap.size k _ rfl ((hout4.alloc _).alloc _) (by unfold maxLen; omega) s v rfl hs rfl ?_; intro w6 hout6 hg6; go_frame)
                | go_in)
              have hrg6 := ((hrg4.alloc _).alloc _).kept hg6 (fun b e h => by have := hBlt b e; have := Option.some.inj h; omega) (by simp)
              have hs6 := hg6.size
              simp at hs6
              refine ⟨⟨_, cnt4, k + 1, hrg6, by omega, hout6.congr (fun x => congrFun (g_store (newM BM AM) left s.toList _ HT.out) x), ((hA4.alloc _).alloc _).kept hg6 (by simp; omega), ((hf4.alloc _).alloc _).grown hg6 (fun j hj => by cases hj; exact hsz5), by omega⟩, by rw [hrg6.left_eq, hrg.left_eq]; exact hlt4⟩
            · have HT : Hid (newM BM AM s.toList = some ⟨v.rev, v.typ, av.first, v.last, v.code, v.msg, v.http, v.commit⟩) := by simp only [Hid, newM, hBv, hav, Option.map_some, newB, hrv]; rfl
              clear hav
              go_wp2_with (first
                | (at_mapUpdate; refine wpList_store (r := rdB) _ rfl _ _ _ 34 rfl 68 Try.underlying34 w5.heap.size k _ rfl ((hout4.alloc _).alloc _) (by unfold maxLen; omega) s ⟨v.rev, v.typ, av.first, v.last, v.code, v.msg, v.http, v.commit⟩ rfl hs rfl ?_; intro w6 hout6 hg6; go_frame)
                | go_in)
              have hrg6 := ((hrg4.alloc _).alloc _).kept hg6 (fun b e h => by have := hBlt b e; have := Option.some.inj h; omega) (by simp)
              have hs6 := hg6.size
              simp at hs6
              refine ⟨⟨_, cnt4, k + 1, hrg6, by omega, hout6.congr (fun x => congrFun (g_store (newM BM AM) left s.toList _ HT.out) x), ((hA4.alloc _).alloc _).kept hg6 (by simp; omega), ((hf4.alloc _).alloc _).grown hg6 (fun j hj => by cases hj; exact hsz5), by omega⟩, by rw [hrg6.left_eq, hrg.left_eq]; exact hlt4⟩
    · intro s v w4 cnt4 hs hls hBv hrg4 hlt4 hg4 hs4 hen
      have hout4 := hout.kept hg4 (by simp)
      have hf4 := hfr.grown hg4 (fun j hj => by cases hj; omega)
      cases hemp : v.first.toList.isEmpty
      · have HT : Hid (shownM BM s.toList = some ⟨v.rev, v.first⟩) := by simp only [Hid, shownM, hBv, hemp]; rfl
        go_wp2_with (first
          | (at_mapUpdate; refine wpList_store (r := rdA) _ rfl _ _ _ 41 rfl 76 Try.underlying41 w2.heap.size k _ rfl (hout4.alloc _) (by unfold maxLen; omega) s ⟨v.rev, v.first⟩ rfl hs rfl ?_; intro w6 hout6 hg6; go_frame)
          | go_in)
        have hrg6 := (hrg4.alloc _).kept hg6 (fun b e h => by have := hBlt b e; have := Option.some.inj h; omega) (by simp)
        have hs6 := hg6.size
        simp at hs6
        refine ⟨⟨_, cnt4, k + 1, hrg6, by omega, hout6.congr (fun x => congrFun (g_store (shownM BM) left s.toList _ HT.out) x), (hf4.alloc _).grown hg6 (fun j hj => by cases hj; exact hsz2), by omega⟩, by rw [hrg6.left_eq, hrg.left_eq]; exact hlt4⟩
      · have HT : Hid (shownM BM s.toList = none) := by simp only [Hid, shownM, hBv, hemp]; rfl
        go_wp2_with go_in
        have hrg6 := hrg4.alloc (.cells #[.string v.rev, .string v.typ, .string v.first, .string v.last, .string v.code, .string v.msg, .string v.http, .string v.commit] 68)
        refine ⟨⟨_, cnt4, k, hrg6, by omega, (hout4.alloc _).congr (fun x => congrFun (g_stay (shownM BM) left s.toList HT.out) x), hf4.alloc _, by simp; omega⟩, by rw [hrg6.left_eq, hrg.left_eq]; exact hlt4⟩

end Go.Proofs.Qxb6608572a

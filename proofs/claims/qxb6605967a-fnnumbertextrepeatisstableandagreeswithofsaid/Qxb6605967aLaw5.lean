import Derived.Test.Qxb6605967aSeen
import Derived.Deep.RegionHeld3
import Derived.BigQuiet
import Derived.WalkSmall
namespace Go.Proofs.Qxb6605967a
open Go.ChangeShapes Go.WideShapes Go.ChangeAt Go.RowKit Go.WideMaps Go.Maps

theorem Try.info3 : (Try.prog.info? 3).map (fun i => (i.zero, i.size, i.bytes)) = some (some (.int .i64 0), 1, 8) := by kernel_rfl

/-- The world in a round of the law's own loop: the copy of the texts, the Numbering's two maps, the numbers gathered. -/
structure St (w : World) (len : Nat) (S : Nat → ByteArray) (tb mb m wb n : Nat) (L : List Text) (f : Nat → Value) (wr : World) : Prop where
  texts : wr.rowIs tb 9 len (fun j => .string (S j))
  c0 : wr.cell? ⟨mb, 0, none⟩ = some (.map (some m))
  c1 : wr.cell? ⟨mb, 1, none⟩ = some (.map (some (m + 1)))
  num : Num wr m n L
  want : wr.rowIs wb 3 len f
  bel : Below w.heap.size w wr
  tw : tb ≠ wb
  tm : tb ≠ m
  mw : mb ≠ wb
  mm : mb ≠ m
  wm : wb ≠ m
  mlt : mb < wr.heap.size
  bm : w.heap.size ≤ m
  bw : w.heap.size ≤ wb

theorem St.drewN {w : World} {len : Nat} {S : Nat → ByteArray} {tb mb m wb n : Nat} {L : List Text} {f : Nat → Value} {wr : World} (h : St w len S tb mb m wb n L f wr) (q : Nat) : St w len S tb mb m wb n L f (wr.drewN q) :=
  ⟨h.texts, h.c0, h.c1, h.num, h.want, below_drewN h.bel q, h.tw, h.tm, h.mw, h.mm, h.wm, h.mlt, h.bm, h.bw⟩

theorem St.drew {w : World} {len : Nat} {S : Nat → ByteArray} {tb mb m wb n : Nat} {L : List Text} {f : Nat → Value} {wr : World} (h : St w len S tb mb m wb n L f wr) : St w len S tb mb m wb n L f wr.drew := h.drewN 1

theorem St.set {w : World} {len : Nat} {S : Nat → ByteArray} {tb mb m wb n : Nat} {L : List Text} {f : Nat → Value} {wr : World} (h : St w len S tb mb m wb n L f wr) (k : Nat) (v : Value) :
    St w len S tb mb m wb n L (fun j => if j = k then v else f j) (wr.setCell ⟨wb, k, none⟩ v) :=
  ⟨h.texts.setOther h.tw v, (World.cell?_of_block (Below.heap_setCell _ _ _ _ h.mw)).trans h.c0, (World.cell?_of_block (Below.heap_setCell _ _ _ _ h.mw)).trans h.c1,
    by obtain ⟨D, h1, h2⟩ := h.num; exact ⟨D, h1.setCell h.wm.symm v, h2⟩,
    h.want.set k v, h.bel.setCell h.bw v, h.tw, h.tm, h.mw, h.mm, h.wm, by simpa [World.setCell] using h.mlt, h.bm, h.bw⟩

theorem St.call {w : World} {len : Nat} {S : Nat → ByteArray} {tb mb m wb n n' : Nat} {L L' : List Text} {f : Nat → Value} {wr wr' : World} (h : St w len S tb mb m wb n L f wr)
    (hN : Num wr' m n' L') (hg : wr.grownBy wr' (some m)) : St w len S tb mb m wb n' L' f wr' := by
  have e1 : wr'.heap[mb]? = wr.heap[mb]? := hg.block _ h.mlt (by simp [h.mm])
  exact ⟨h.texts.of_block (hg.block _ h.texts.lt (by simp [h.tm])), (World.cell?_of_block (a := ⟨mb, 0, none⟩) e1).trans h.c0, (World.cell?_of_block (a := ⟨mb, 1, none⟩) e1).trans h.c1,
    hN, h.want.of_block (hg.block _ h.want.lt (by simp [h.wm])), h.bel.grown hg h.bel.size (fun j hj => by cases hj; exact h.bm), h.tw, h.tm, h.mw, h.mm, h.wm, Nat.lt_of_lt_of_le h.mlt hg.size, h.bm, h.bw⟩

theorem St.congr {w : World} {len : Nat} {S : Nat → ByteArray} {tb mb m wb n : Nat} {L : List Text} {f g : Nat → Value} {wr : World} (h : St w len S tb mb m wb n L f wr) (e : ∀ i, i < len → f i = g i) : St w len S tb mb m wb n L g wr :=
  ⟨h.texts, h.c0, h.c1, h.num, h.want.congr e, h.bel, h.tw, h.tm, h.mw, h.mm, h.wm, h.mlt, h.bm, h.bw⟩

/-- What the numbers gathered are after k rounds. -/
def wants (T : Nat → Text) (k : Nat) : Nat → Value := fun j => if j < k then .int .i64 ((seen T k).idxOf (T j) : Nat) else .int .i64 0

theorem wants_step (T : Nat → Text) (k : Nat) (x : Int) (hx : x = ((seen T k).idxOf (T k) : Nat)) (j : Nat) :
    (if j = k then Value.int .i64 x else wants T k j) = wants T (k + 1) j := by
  unfold wants
  by_cases h1 : j = k
  · subst h1
    rw [if_pos rfl, if_pos (by omega), idx_last, hx]
  · rw [if_neg h1]
    by_cases h2 : j < k
    · rw [if_pos h2, if_pos (by omega), idx_step T h2]
    · rw [if_neg h2, if_neg (by omega)]

theorem wants_at (T : Nat → Text) (k : Nat) : wants T (k + 1) k = .int .i64 ((seen T k).idxOf (T k) : Nat) := by
  rw [wants, if_pos (Nat.lt_succ_self k), idx_last]

theorem St.next {w : World} {len : Nat} {S : Nat → ByteArray} {tb mb m wb n n' : Nat} {L L' : List Text} {f : Nat → Value} {wr : World} (h : St w len S tb mb m wb n L f wr) (hn : n ≤ n') (hL : L' = L) : St w len S tb mb m wb n' L' f wr := by
  subst hL
  exact ⟨h.texts, h.c0, h.c1, h.num.mono hn, h.want, h.bel, h.tw, h.tm, h.mw, h.mm, h.wm, h.mlt, h.bm, h.bw⟩

theorem st_start {w w1 w2 : World} {len : Nat} {S : Nat → ByteArray} (hrow2 : w2.rowIs w.heap.size 9 len (fun j => .string (S j))) (hN2 : Num w2 (w1.heap.size + 1) 0 []) (hb1 : Below w.heap.size w w1) (hb2 : Below w1.heap.size w1 w2) (h1 : w.heap.size < w1.heap.size) :
    St w len S w.heap.size w2.heap.size (w1.heap.size + 1) (w2.heap.size + 1) 0 [] (wants (fun j => (S j).toList) 0) ((w2.alloc (.cells #[.map (some (w1.heap.size + 1)), .map (some (w1.heap.size + 2))] 30)).alloc (.cells (madeCells #[.int .i64 0] len) 3)) := by
  have hlt := hN2.lt
  have hs1 := hb1.size
  have hs2 := hb2.size
  refine ⟨(hrow2.alloc _).alloc _, ?_, ?_, (hN2.kept (World.grownBy_alloc _ _ none) (by simp)).kept (World.grownBy_alloc _ _ none) (by simp), ?_, ?_, by omega, by omega, by omega, by omega, by omega, by simp; omega, by omega, by omega⟩
  · simp
  · simp
  · have h := World.rowIs_made (w2.alloc (.cells #[.map (some (w1.heap.size + 1)), .map (some (w1.heap.size + 2))] 30)) (.int .i64 0) len 3
    have e : (w2.alloc (.cells #[.map (some (w1.heap.size + 1)), .map (some (w1.heap.size + 2))] 30)).heap.size = w2.heap.size + 1 := by simp
    rw [e] at h
    exact h.congr (fun i _ => by simp [wants])
  · exact ((hb1.trans (hb2.mono (by omega))).alloc (by omega) _).alloc (by simp; omega) _

set_option maxHeartbeats 800000 in
set_option maxRecDepth 100000 in
theorem law5_some (b off len cap : Nat) (S : Nat → ByteArray) (w : World) (hm : len ≤ maxLen) (hb : b < w.heap.size)
    (hc : ∀ j, j < len → w.cell? ⟨b, off + j, none⟩ = some (.string (S j))) (hS : ∀ j, (S j).size ≤ maxLen) :
    Calls Try.prog 5 #[.slice (some ⟨b, off, none⟩) len cap] w fun e w' => e = .returned (.bool true) ∧ Below w.heap.size w w' := by
  have hm' := hm
  unfold maxLen at hm'
  by_cases hbig : 4096 < (len : Int)
  · go_enter Try.func5, Try.ntmps5
    go_wp2_with fail
    refine (bytes9' _ len cap S _ hm (Or.inr ⟨b, off, rfl, hb, hc⟩)).mono ?_
    rintro e w' ⟨⟨x, rfl⟩, rfl⟩
    cases x
    · go_wp2
      go_ret
      exact ⟨rfl, Below.refl _ _⟩
    · go_wp2
      go_ret
      exact ⟨rfl, Below.refl _ _⟩
  go_enter Try.func5, Try.ntmps5
  go_wp2_with fail
  refine (bytes9' _ len cap S _ hm (Or.inr ⟨b, off, rfl, hb, hc⟩)).mono ?_
  rintro e w' ⟨⟨x, rfl⟩, rfl⟩
  cases x
  · go_wp2
    go_ret
    exact ⟨rfl, Below.refl _ _⟩
  go_wp2
  go_loop [3, 4] (fun z i => ∃ (k : Nat) (t : Int), k ≤ len ∧ i = .int .i64 k ∧ z = .int .i64 t) (fun _ i => len - (intOf i).toNat)
  case atStart => exact ⟨0, _, Nat.zero_le _, rfl, rfl⟩
  case round =>
    obtain ⟨k, t, hk, rfl, rfl⟩ := hrel
    by_cases hlt : k < len
    · have hcx := hc k hlt
      go_wp2
      · go_ret
        exact ⟨rfl, Below.refl _ _⟩
      · go_round
        case rel => exact ⟨k + 1, _, by omega, by go_num, rfl⟩
        case measure => simp [intOf]; omega
    · go_wp2_with fail
      refine (clone10_some b off len cap S _ (by omega) hb hc).mono ?_
      rintro e w1 ⟨rfl, hrow1, hb1⟩
      go_wp2_with fail
      refine (new11 _).mono ?_
      rintro e w2 ⟨rfl, hN2, hb2⟩
      have hrow2 := hrow1.of_block (w' := w2) (hb2.block _ hrow1.lt)
      have hmk := run_make_row' (P := Try.prog) 32 3 (.int .i64 0) 8 Try.underlying32 Try.info3 rfl .i64 .i64 len (by omega) (by omega)
      go_wp2
      have hst : St w len S w.heap.size w2.heap.size (w1.heap.size + 1) (w2.heap.size + 1) 0 [] (wants (fun j => (S j).toList) 0) ((w2.alloc (.cells #[.map (some (w1.heap.size + 1)), .map (some (w1.heap.size + 2))] 30)).alloc (.cells (madeCells #[.int .i64 0] len) 3)) := st_start hrow2 hN2 hb1 hb2 hrow1.lt
      go_loopw [7, 8] (fun d i wr => ∃ k : Nat, k ≤ len ∧ i = .int .i64 k ∧ d = .int .i64 ((seen (fun j => (S j).toList) k).length : Nat) ∧ St w len S w.heap.size w2.heap.size (w1.heap.size + 1) (w2.heap.size + 1) k (seen (fun j => (S j).toList) k) (wants (fun j => (S j).toList) k) wr) (fun _ i _ => len - (intOf i).toNat)
      case atStart => exact ⟨0, Nat.zero_le _, rfl, rfl, hst⟩
      case round =>
        clear hst hmk hrow1 hrow2 hN2
        obtain ⟨k, hk, rfl, rfl, hst⟩ := hrel
        by_cases hlt : k < len
        · obtain ⟨wo, rfl⟩ : ∃ wo : World, wo = wr := ⟨_, rfl⟩
          go_wp2
          go_loopw [9, 10] (fun x y wr => ∃ j : Nat, j ≤ k ∧ y = .int .i64 j ∧ x = .int .i64 k ∧ (∀ i, i < j → (S i).toList ≠ (S k).toList) ∧ St w len S w.heap.size w2.heap.size (w1.heap.size + 1) (w2.heap.size + 1) k (seen (fun j => (S j).toList) k) (wants (fun j => (S j).toList) k) wr) (fun _ y _ => k - (intOf y).toNat)
          case atStart => exact ⟨0, Nat.zero_le _, rfl, rfl, fun i hi => by omega, hst⟩
          case round =>
            clear hst
            obtain ⟨j, hj, rfl, rfl, hno, hst⟩ := hrel
            have HN : Hid (∀ i, i < j → (S i).toList ≠ (S k).toList) := hno
            clear hno
            by_cases hjk : j < k
            · have hcj := hst.texts.cell (i := j) (by omega)
              have hck := hst.texts.cell hlt
              have hjl : (j : Int) < (len : Int) := by omega
              have hkl : (k : Int) < (len : Int) := by omega
              by_cases heq : ((S j).toList == (S k).toList) = true
              · have hwj := hst.want.cell (i := j) (by omega)
                rw [wants, if_pos hjk] at hwj
                have hwk := hst.want.cell hlt
                rw [wants, if_neg (Nat.lt_irrefl k)] at hwk
                have hwf := hst.want.frozen k
                have hne : ((j : Int) == (k : Int)) = false := by simp; omega
                have heq' : (S j).toList = (S k).toList := by simpa using heq
                have hold := seen_some (fun j => (S j).toList) hjk heq'
                have HF : Hid (((List.idxOf (S j).toList (seen (fun j => (S j).toList) k) : Nat) : Int) = ((seen (fun j => (S j).toList) k).idxOf (S k).toList : Nat)) := by rw [heq']; exact rfl
                have HE := seen_old (fun j => (S j).toList) k hold
                have HO : Hid (seen (fun j => (S j).toList) (k + 1) = seen (fun j => (S j).toList) k) := HE
                clear heq' HE
                have HOld : Hid ((seen (fun j => (S j).toList) k).contains (S k).toList = true) := hold
                clear hold
                go_wp2
                go_quiet (fail)
                go_wp2
                have hs2 := ((hst.drewN nq).set k (.int .i64 ↑(List.idxOf (S j).toList (seen (fun j => (S j).toList) k)))).congr (fun i _ => wants_step (fun j => (S j).toList) k _ HF.out i)
                generalize (wr.drewN nq).setCell ⟨w2.heap.size + 1, k, none⟩ (.int .i64 ↑(List.idxOf (S j).toList (seen (fun j => (S j).toList) k))) = wx at hs2 ⊢
                clear hst hcj hck hwj hwk hwf heq
                have hx0 := hs2.c0
                have hx1 := hs2.c1
                have hxt := hs2.texts.cell hlt
                have hs2d := hs2.drew
                go_region_held3 (fun w' => w'.cell? ⟨w2.heap.size, 0, none⟩ = some (.map (some (w1.heap.size + 1))) ∧ w'.cell? ⟨w2.heap.size, 1, none⟩ = some (.map (some (w1.heap.size + 1 + 1))) ∧ w'.cell? ⟨w.heap.size, k, none⟩ = some (.string (S k))) (first | go_keep | exact ⟨hs3.c0, hs3.c1, hs3.texts.cell hlt⟩)
                  (first | (go_at_call 12; refine (number12_old (w1.heap.size + 1) (w1.heap.size + 1 + 1) k (seen (fun j => (S j).toList) k) (S k) wx.drew (hS k) hs2d.num HOld.out).mono ?_; rintro e w' ⟨rfl, hN, hg⟩; have hs3 := hs2d.call hN hg))
                have hwk := hs3.want.cell hlt
                rw [wants_at] at hwk
                go_wp2
                go_roundw
                case rel => exact ⟨k + 1, by omega, by go_num, by rw [HO.out], hs3.next (Nat.le_succ _) HO.out⟩
                case measure => simp [intOf]; omega
              · go_wp2
                go_quiet (fail)
                go_wp2
                go_roundw
                case rel =>
                  refine ⟨j + 1, by omega, by go_num, rfl, fun i hi => ?_, hst.drewN nq⟩
                  by_cases h : i = j
                  · subst h; simpa using heq
                  · exact HN.out i (by omega)
                case measure => simp [intOf]; omega
            · have hwk := hst.want.cell hlt
              rw [wants, if_neg (Nat.lt_irrefl k)] at hwk
              have hwf := hst.want.frozen k
              have hnew := seen_none (fun j => (S j).toList) k (fun i hi => HN.out i (by omega))
              have HNew : Hid ((seen (fun j => (S j).toList) k).contains (S k).toList = false) := hnew
              have HO : Hid (seen (fun j => (S j).toList) (k + 1) = seen (fun j => (S j).toList) k ++ [(S k).toList]) := seen_new _ k hnew
              have HI : Hid (List.idxOf (S k).toList (seen (fun j => (S j).toList) k) = (seen (fun j => (S j).toList) k).length) := idx_new _ k hnew
              clear hnew
              have hls := len_seen (fun j => (S j).toList) k
              go_wp2
              have hs2 := (hst.set k (.int .i64 ↑(seen (fun j => (S j).toList) k).length)).congr (fun i _ => wants_step (fun j => (S j).toList) k _ (by rw [HI.out]) i)
              generalize wr.setCell ⟨w2.heap.size + 1, k, none⟩ (.int .i64 ↑(seen (fun j => (S j).toList) k).length) = wx at hs2 ⊢
              clear hst hwk hwf
              have hx0 := hs2.c0
              have hx1 := hs2.c1
              have hxt := hs2.texts.cell hlt
              have hs2d := hs2.drew
              go_region_held3 (fun w' => w'.cell? ⟨w2.heap.size, 0, none⟩ = some (.map (some (w1.heap.size + 1))) ∧ w'.cell? ⟨w2.heap.size, 1, none⟩ = some (.map (some (w1.heap.size + 1 + 1))) ∧ w'.cell? ⟨w.heap.size, k, none⟩ = some (.string (S k))) (first | go_keep | exact ⟨hs3.c0, hs3.c1, hs3.texts.cell hlt⟩)
                  (first | (go_at_call 12; refine (number12_new (w1.heap.size + 1) (w1.heap.size + 1 + 1) k (seen (fun j => (S j).toList) k) (S k) wx.drew (hS k) (by unfold maxLen; omega) (by omega) hs2d.num HNew.out).mono ?_; rintro e w' ⟨rfl, hN, hg⟩; have hs3 := hs2d.call hN hg))
              have hwk := hs3.want.cell hlt
              rw [wants_at, HI.out] at hwk
              go_wp2
              go_roundw
              case rel => exact ⟨k + 1, by omega, by go_num, by rw [HO.out]; simp, hs3.next (Nat.le_refl _) HO.out⟩
              case measure => simp [intOf]; omega
        · go_wp2
          go_ret
          exact ⟨rfl, hst.bel⟩

set_option maxHeartbeats 800000 in
set_option maxRecDepth 100000 in
theorem law5_nil (w : World) :
    Calls Try.prog 5 #[.slice none 0 0] w fun e w' => e = .returned (.bool true) ∧ Below w.heap.size w w' := by
  go_enter Try.func5, Try.ntmps5
  go_wp2_with fail
  refine (bytes9' _ 0 0 (fun _ => ByteArray.empty) _ (Nat.zero_le _) (Or.inl rfl)).mono ?_
  rintro e w' ⟨⟨x, rfl⟩, rfl⟩
  cases x
  · go_wp2
    go_ret
    exact ⟨rfl, Below.refl _ _⟩
  go_wp2
  refine wp_loop_rounds 1 ?_
  rw [rounds_succ]
  go_wp2_with fail
  refine (clone10_nil _).mono ?_
  rintro e w1 ⟨rfl, rfl⟩
  go_wp2_with fail
  refine (new11 _).mono ?_
  rintro e w2 ⟨rfl, hN2, hb2⟩
  have hmk : ∀ w : World, (Instr.makeSlice 32 (.int .i64 0) (.int .i64 0)).run Try.prog w = .ok (.slice (some ⟨w.heap.size, 0, none⟩) 0 0) (w.alloc (.cells (madeCells #[.int .i64 0] 0) 3)) :=
    fun w => run_make_row' (P := Try.prog) 32 3 (.int .i64 0) 8 Try.underlying32 Try.info3 rfl .i64 .i64 0 (by omega) (by omega) w
  go_wp2
  refine wp_loop_rounds 1 ?_
  rw [rounds_succ]
  go_wp2
  go_ret
  have hs2 := hb2.size
  exact ⟨rfl, (hb2.alloc hs2 _).alloc (by simp; omega) _⟩

set_option maxHeartbeats 800000 in
set_option maxRecDepth 100000 in
theorem law5_empty (x : Addr) (cap : Nat) (w : World) :
    Calls Try.prog 5 #[.slice (some x) 0 cap] w fun e w' => e = .returned (.bool true) ∧ Below w.heap.size w w' := by
  go_enter Try.func5, Try.ntmps5
  go_wp2_with fail
  refine (bytes9' _ 0 cap (fun _ => ByteArray.empty) _ (Nat.zero_le _) (Or.inl rfl)).mono ?_
  rintro e w' ⟨⟨y, rfl⟩, rfl⟩
  cases y
  · go_wp2
    go_ret
    exact ⟨rfl, Below.refl _ _⟩
  go_wp2
  refine wp_loop_rounds 1 ?_
  rw [rounds_succ]
  go_wp2_with fail
  refine (clone10_empty x cap _).mono ?_
  rintro e w1 ⟨rfl, hb1⟩
  go_wp2_with fail
  refine (new11 _).mono ?_
  rintro e w2 ⟨rfl, hN2, hb2⟩
  have hmk : ∀ w : World, (Instr.makeSlice 32 (.int .i64 0) (.int .i64 0)).run Try.prog w = .ok (.slice (some ⟨w.heap.size, 0, none⟩) 0 0) (w.alloc (.cells (madeCells #[.int .i64 0] 0) 3)) :=
    fun w => run_make_row' (P := Try.prog) 32 3 (.int .i64 0) 8 Try.underlying32 Try.info3 rfl .i64 .i64 0 (by omega) (by omega) w
  go_wp2
  refine wp_loop_rounds 1 ?_
  rw [rounds_succ]
  go_wp2
  go_ret
  have hs2 := hb2.size
  have hs1 := hb1.size
  exact ⟨rfl, ((hb1.trans (hb2.mono hs1)).alloc (by omega) _).alloc (by simp; omega) _⟩

end Go.Proofs.Qxb6605967a

import Derived.Test.Qxb6605967aLaw6a
import Derived.Deep.RegionHeld3
import Derived.BigQuiet
import Derived.WalkSmall
namespace Go.Proofs.Qxb6605967a
open Go.ChangeShapes Go.WideShapes Go.ChangeAt Go.RowKit Go.WideMaps Go.Maps

set_option maxHeartbeats 2000000 in
set_option maxRecDepth 100000 in
theorem law6_some (b off len cap : Nat) (S : Nat → ByteArray) (s : ByteArray) (w : World) (hm : len ≤ maxLen) (hb : b < w.heap.size)
    (hc : ∀ j, j < len → w.cell? ⟨b, off + j, none⟩ = some (.string (S j))) (hS : ∀ j, (S j).size ≤ maxLen) (hs : s.size ≤ maxLen) :
    Calls Try.prog 6 #[.slice (some ⟨b, off, none⟩) len cap, .string s] w fun e w' => e = .returned (.bool true) ∧ Below w.heap.size w w' := by
  have hm' := hm
  unfold maxLen at hm'
  by_cases hbig : 4096 < (len : Int)
  · go_enter Try.func6, Try.ntmps6
    go_wp2_with fail
    refine (bytes13_some b off len cap S s _ hm hc).mono ?_
    rintro e w' ⟨⟨x, rfl⟩, rfl⟩
    cases x
    · go_wp2
      go_ret
      exact ⟨rfl, Below.refl _ _⟩
    · go_wp2
      go_ret
      exact ⟨rfl, Below.refl _ _⟩
  by_cases hbigs : 1048576 < (s.size : Int)
  · go_enter Try.func6, Try.ntmps6
    go_wp2_with fail
    refine (bytes13_some b off len cap S s _ hm hc).mono ?_
    rintro e w' ⟨⟨x, rfl⟩, rfl⟩
    cases x
    · go_wp2
      go_ret
      exact ⟨rfl, Below.refl _ _⟩
    · go_wp2
      go_ret
      exact ⟨rfl, Below.refl _ _⟩
  go_enter Try.func6, Try.ntmps6
  go_wp2_with fail
  refine (bytes13_some b off len cap S s _ hm hc).mono ?_
  rintro e w' ⟨⟨x, rfl⟩, rfl⟩
  cases x
  · go_wp2
    go_ret
    exact ⟨rfl, Below.refl _ _⟩
  go_wp2
  go_loop [5, 6] (fun z i => ∃ (k : Nat) (t : Int), k ≤ len ∧ i = .int .i64 k ∧ z = .int .i64 t) (fun _ i => len - (intOf i).toNat)
  case atStart => exact ⟨0, _, Nat.zero_le _, rfl, rfl⟩
  case round =>
    obtain ⟨k, t, hk, rfl, rfl⟩ := hrel
    by_cases hlt : k < len
    · have hcx := hc k hlt
      go_wp2
      · go_ret
        exact ⟨rfl, Below.refl _ _⟩
      · go_round
        case rel => exact ⟨k + 1, _, by omega, by go_num, rfl⟩
        case measure => simp [intOf]; omega
    · go_wp2_with fail
      refine (clone10_some b off len cap S _ (by omega) hb hc).mono ?_
      rintro e w1 ⟨rfl, hrow1, hb1⟩
      go_wp2_with fail
      refine (new11 _).mono ?_
      rintro e w2 ⟨rfl, hN2, hb2⟩
      have hrow2 := hrow1.of_block (w' := w2) (hb2.block _ hrow1.lt)
      have hmk := run_make_row' (P := Try.prog) 32 3 (.int .i64 0) 8 Try.underlying32 Try.info3 rfl .i64 .i64 len (by omega) (by omega)
      go_wp2
      have hst : St w len S w.heap.size w2.heap.size (w1.heap.size + 1) (w2.heap.size + 1) 0 [] (wants (fun j => (S j).toList) 0) ((w2.alloc (.cells #[.map (some (w1.heap.size + 1)), .map (some (w1.heap.size + 2))] 30)).alloc (.cells (madeCells #[.int .i64 0] len) 3)) := st_start hrow2 hN2 hb1 hb2 hrow1.lt
      go_loopw [9, 10] (fun d i wr => ∃ k : Nat, k ≤ len ∧ i = .int .i64 k ∧ d = .int .i64 ((seen (fun j => (S j).toList) k).length : Nat) ∧ St w len S w.heap.size w2.heap.size (w1.heap.size + 1) (w2.heap.size + 1) k (seen (fun j => (S j).toList) k) (wants (fun j => (S j).toList) k) wr) (fun _ i _ => len - (intOf i).toNat)
      case atStart => exact ⟨0, Nat.zero_le _, rfl, rfl, hst⟩
      case round =>
        clear hst hmk hrow1 hrow2 hN2 hc hk hlt
        obtain ⟨k, hk, rfl, rfl, hst⟩ := hrel
        have hls := len_seen (fun j => (S j).toList) k
        by_cases hlt : k < len
        · have hx0 := hst.c0
          have hx1 := hst.c1
          have hxt := hst.texts.cell hlt
          have hsd := hst.drew
          have hkl : (k : Int) < (len : Int) := by omega
          cases hct : (seen (fun j => (S j).toList) k).contains (S k).toList
          · have HCt : Hid ((seen (fun j => (S j).toList) k).contains (S k).toList = false) := hct
            have HO : Hid (seen (fun j => (S j).toList) (k + 1) = seen (fun j => (S j).toList) k ++ [(S k).toList]) := seen_new _ k hct
            have HI : Hid (List.idxOf (S k).toList (seen (fun j => (S j).toList) k) = (seen (fun j => (S j).toList) k).length) := idx_new _ k hct
            clear hct
            go_wp2
            go_region_held3 (fun w' => w'.cell? ⟨w2.heap.size, 0, none⟩ = some (.map (some (w1.heap.size + 1))) ∧ w'.cell? ⟨w2.heap.size, 1, none⟩ = some (.map (some (w1.heap.size + 1 + 1))) ∧ w'.cell? ⟨w.heap.size, k, none⟩ = some (.string (S k))) (first | go_keep | exact ⟨hs3.c0, hs3.c1, hs3.texts.cell hlt⟩)
              (first | (go_at_call 12; refine (number12_new (w1.heap.size + 1) (w1.heap.size + 1 + 1) k (seen (fun j => (S j).toList) k) (S k) wr.drew (hS k) (by unfold maxLen; omega) (by omega) hsd.num HCt.out).mono ?_; rintro e w' ⟨rfl, hN, hg⟩; have hs3 := hsd.call hN hg))
            have hwk := hs3.want.cell hlt
            rw [wants, if_neg (Nat.lt_irrefl k)] at hwk
            have hwf := hs3.want.frozen k
            clear hst hsd hx0 hx1 hxt hN hg
            go_wp2
            have hs4 := (hs3.set k (.int .i64 ↑(seen (fun j => (S j).toList) k).length)).congr (fun i _ => wants_step (fun j => (S j).toList) k _ (by rw [HI.out]) i)
            go_roundw
            case rel => exact ⟨k + 1, by omega, by go_num, by rw [HO.out]; simp, hs4.next (Nat.le_refl _) HO.out⟩
            case measure => simp [intOf]; omega
          · have HCt : Hid ((seen (fun j => (S j).toList) k).contains (S k).toList = true) := hct
            have HO : Hid (seen (fun j => (S j).toList) (k + 1) = seen (fun j => (S j).toList) k) := seen_old _ k hct
            have hil := idx_lt_of_mem hct
            clear hct
            go_wp2
            go_region_held3 (fun w' => w'.cell? ⟨w2.heap.size, 0, none⟩ = some (.map (some (w1.heap.size + 1))) ∧ w'.cell? ⟨w2.heap.size, 1, none⟩ = some (.map (some (w1.heap.size + 1 + 1))) ∧ w'.cell? ⟨w.heap.size, k, none⟩ = some (.string (S k))) (first | go_keep | exact ⟨hs3.c0, hs3.c1, hs3.texts.cell hlt⟩)
              (first | (go_at_call 12; refine (number12_old (w1.heap.size + 1) (w1.heap.size + 1 + 1) k (seen (fun j => (S j).toList) k) (S k) wr.drew (hS k) hsd.num HCt.out).mono ?_; rintro e w' ⟨rfl, hN, hg⟩; have hs3 := hsd.call hN hg))
            have hwk := hs3.want.cell hlt
            rw [wants, if_neg (Nat.lt_irrefl k)] at hwk
            have hwf := hs3.want.frozen k
            clear hst hsd hx0 hx1 hxt hN hg
            go_wp2
            have hs4 := (hs3.set k (.int .i64 ↑(List.idxOf (S k).toList (seen (fun j => (S j).toList) k)))).congr (fun i _ => wants_step (fun j => (S j).toList) k _ rfl i)
            go_roundw
            case rel => exact ⟨k + 1, by omega, by go_num, by rw [HO.out], hs4.next (Nat.le_succ _) HO.out⟩
            case measure => simp [intOf]; omega
        · obtain rfl : len = k := by omega
          clear hlt hk
          go_wp2
          go_loopw [13] (fun i wr => ∃ k : Nat, k ≤ len ∧ i = .int .i64 k ∧ St w len S w.heap.size w2.heap.size (w1.heap.size + 1) (w2.heap.size + 1) len (seen (fun j => (S j).toList) len) (wants (fun j => (S j).toList) len) wr) (fun i _ => len - (intOf i).toNat)
          case atStart => exact ⟨0, Nat.zero_le _, rfl, hst⟩
          case round =>
            clear hst
            obtain ⟨i, hi, rfl, hst⟩ := hrel
            by_cases hil : i < len
            · obtain ⟨wo, rfl⟩ : ∃ wo : World, wo = wr := ⟨_, rfl⟩
              go_wp2
              go_loopw [14] (fun y wr => ∃ j : Nat, j ≤ i ∧ y = .int .i64 j ∧ St w len S w.heap.size w2.heap.size (w1.heap.size + 1) (w2.heap.size + 1) len (seen (fun j => (S j).toList) len) (wants (fun j => (S j).toList) len) wr) (fun y _ => i - (intOf y).toNat)
              case atStart => exact ⟨0, Nat.zero_le _, rfl, hst⟩
              case round =>
                clear hst
                obtain ⟨j, hj, rfl, hst⟩ := hrel
                by_cases hji : j < i
                · have hjl : j < len := by omega
                  have hti := hst.texts.cell hil
                  have htj := hst.texts.cell hjl
                  have hwi := hst.want.cell hil
                  rw [wants, if_pos hil] at hwi
                  have hwj := hst.want.cell hjl
                  rw [wants, if_pos hjl] at hwj
                  have hjl' : (j : Int) < (len : Int) := by omega
                  have hil' : (i : Int) < (len : Int) := by omega
                  have hsame := idx_same_int (fun j => (S j).toList) (i := i) (j := j) hil
                  go_wp2
                  go_quiet (fail)
                  go_wp2
                  go_roundw
                  case rel => exact ⟨j + 1, by omega, by go_num, hst.drewN nq⟩
                  case measure => simp [intOf]; omega
                · go_wp2
                  go_roundw
                  case rel => exact ⟨i + 1, by omega, by go_num, hst⟩
                  case measure => simp [intOf]; omega
            · go_wp2
              go_loopw [15, 16, 17] (fun x p y wr => ∃ j : Nat, j ≤ len ∧ y = .int .i64 j ∧ x = .bool false ∧ p = .int .i64 (-1) ∧ (∀ i, i < j → (S i).toList ≠ s.toList) ∧ St w len S w.heap.size w2.heap.size (w1.heap.size + 1) (w2.heap.size + 1) len (seen (fun j => (S j).toList) len) (wants (fun j => (S j).toList) len) wr) (fun _ _ y _ => len - (intOf y).toNat)
              case atStart => exact ⟨0, Nat.zero_le _, rfl, rfl, rfl, fun i hi => by omega, hst⟩
              case round =>
                clear hst
                obtain ⟨j, hj, rfl, rfl, rfl, hno, hst⟩ := hrel
                have HN : Hid (∀ i, i < j → (S i).toList ≠ s.toList) := hno
                clear hno
                have hx0 := hst.c0
                have hx1 := hst.c1
                by_cases hjl : j < len
                · have htj := hst.texts.cell hjl
                  have hwj := hst.want.cell hjl
                  rw [wants, if_pos hjl] at hwj
                  by_cases heq : ((S j).toList == s.toList) = true
                  · have heq' : (S j).toList = s.toList := by simpa using heq
                    have HIn : Hid ((seen (fun j => (S j).toList) len).contains s.toList = true) := by rw [← heq']; exact seen_has (fun j => (S j).toList) hjl
                    have hgp : (((List.idxOf s.toList (seen (fun j => (S j).toList) len) : Nat) : Int) != ((List.idxOf (S j).toList (seen (fun j => (S j).toList) len) : Nat) : Int)) = false := by rw [heq']; simp
                    have hgq : (((List.idxOf s.toList (seen (fun j => (S j).toList) len) : Nat) : Int) == ((List.idxOf (S j).toList (seen (fun j => (S j).toList) len) : Nat) : Int)) = true := by rw [heq']; simp
                    clear heq'
                    go_wp2_with fail
                    refine (of14_yes (w1.heap.size + 1) (w1.heap.size + 1 + 1) len (seen (fun j => (S j).toList) len) s _ hs hst.num HIn.out).mono ?_
                    rintro e w3 ⟨rfl, hN, hg⟩
                    have hs3 := hst.call hN hg
                    clear hst hN hg hx0 hx1 htj hwj heq
                    go_wp2
                    go_loopw [20] (fun i wr => ∃ k : Nat, k ≤ len ∧ i = .int .i64 ((k : Int) - 1) ∧ St w len S w.heap.size w2.heap.size (w1.heap.size + 1) (w2.heap.size + 1) len (seen (fun j => (S j).toList) len) (wants (fun j => (S j).toList) len) wr) (fun i _ => (intOf i + 1).toNat)
                    case atStart => exact ⟨len, Nat.le_refl _, by go_num, hs3⟩
                    case round =>
                      clear hs3
                      obtain ⟨k, hk, rfl, hst⟩ := hrel
                      cases k with
                      | succ m =>
                        have hml : m < len := by omega
                        have em : (((m + 1 : Nat) : Int) - 1) = (m : Int) := by omega
                        rw [em]
                        clear em
                        have hmi : (m : Int) < (len : Int) := by omega
                        have hx0 := hst.c0
                        have hx1 := hst.c1
                        have hxt := hst.texts.cell hml
                        have hsd := hst.drew
                        have HCt : Hid ((seen (fun j => (S j).toList) len).contains (S m).toList = true) := seen_has (fun j => (S j).toList) hml
                        go_wp2
                        go_region_held3 (fun w' => w'.cell? ⟨w2.heap.size, 0, none⟩ = some (.map (some (w1.heap.size + 1))) ∧ w'.cell? ⟨w2.heap.size, 1, none⟩ = some (.map (some (w1.heap.size + 1 + 1))) ∧ w'.cell? ⟨w.heap.size, m, none⟩ = some (.string (S m))) (first | go_keep | exact ⟨hs4.c0, hs4.c1, hs4.texts.cell hml⟩)
                          (first | (go_at_call 12; refine (number12_old (w1.heap.size + 1) (w1.heap.size + 1 + 1) len (seen (fun j => (S j).toList) len) (S m) wr.drew (hS m) hsd.num HCt.out).mono ?_; rintro e w4 ⟨rfl, hN, hg⟩; have hs4 := hsd.call hN hg))
                        have hwm := hs4.want.cell hml
                        rw [wants, if_pos hml] at hwm
                        clear hst hsd hx0 hx1 hxt hN hg
                        have hx0 := hs4.c0
                        have hx1 := hs4.c1
                        have hxt := hs4.texts.cell hml
                        have hsd := hs4.drew
                        go_wp2
                        go_region_held3 (fun w' => w'.cell? ⟨w2.heap.size, 0, none⟩ = some (.map (some (w1.heap.size + 1))) ∧ w'.cell? ⟨w2.heap.size, 1, none⟩ = some (.map (some (w1.heap.size + 1 + 1))) ∧ w'.cell? ⟨w.heap.size, m, none⟩ = some (.string (S m))) (first | go_keep | exact ⟨hs5.c0, hs5.c1, hs5.texts.cell hml⟩)
                          (first | (go_at_call 14; refine (of14_yes (w1.heap.size + 1) (w1.heap.size + 1 + 1) len (seen (fun j => (S j).toList) len) (S m) w4.drew (hS m) hsd.num HCt.out).mono ?_; rintro e w5 ⟨rfl, hN, hg⟩; have hs5 := hsd.call hN hg))
                        have hwm5 := hs5.want.cell hml
                        rw [wants, if_pos hml] at hwm5
                        clear hs4 hsd hx0 hx1 hxt hN hg hwm
                        go_wp2
                        go_roundw
                        case rel => exact ⟨m, by omega, by go_num, hs5⟩
                        case measure => simp [intOf]
                      | zero =>
                        have hx0 := hst.c0
                        have hx1 := hst.c1
                        go_wp2_with fail
                        refine (number12_old (w1.heap.size + 1) (w1.heap.size + 1 + 1) len (seen (fun j => (S j).toList) len) s _ hs hst.num HIn.out).mono ?_
                        rintro e w6 ⟨rfl, hN, hg⟩
                        have hs6 := hst.call hN hg
                        clear hst hx0 hx1 hN hg
                        go_wp2
                        go_ret
                        exact ⟨rfl, hs6.bel⟩
                  · go_wp2
                    go_roundw
                    case rel =>
                      refine ⟨j + 1, by omega, by go_num, rfl, rfl, fun i hi => ?_, hst⟩
                      by_cases h : i = j
                      · subst h; simpa using heq
                      · exact HN.out i (by omega)
                    case measure => simp [intOf]; omega
                · have HIn : Hid ((seen (fun j => (S j).toList) len).contains s.toList = false) := seen_not (fun j => (S j).toList) len (fun i hi => HN.out i (by omega))
                  go_wp2_with fail
                  refine (of14_no (w1.heap.size + 1) (w1.heap.size + 1 + 1) len (seen (fun j => (S j).toList) len) s _ hs hst.num HIn.out).mono ?_
                  rintro e w3 ⟨⟨c, rfl⟩, hN, hg⟩
                  have hs3 := hst.call hN hg
                  clear hst hN hg hx0 hx1
                  go_wp2
                  go_loopw [20] (fun i wr => ∃ k : Nat, k ≤ len ∧ i = .int .i64 ((k : Int) - 1) ∧ St w len S w.heap.size w2.heap.size (w1.heap.size + 1) (w2.heap.size + 1) len (seen (fun j => (S j).toList) len) (wants (fun j => (S j).toList) len) wr) (fun i _ => (intOf i + 1).toNat)
                  case atStart => exact ⟨len, Nat.le_refl _, by go_num, hs3⟩
                  case round =>
                    clear hs3
                    obtain ⟨k, hk, rfl, hst⟩ := hrel
                    cases k with
                    | succ m =>
                      have hml : m < len := by omega
                      have em : (((m + 1 : Nat) : Int) - 1) = (m : Int) := by omega
                      rw [em]
                      clear em
                      have hmi : (m : Int) < (len : Int) := by omega
                      have hx0 := hst.c0
                      have hx1 := hst.c1
                      have hxt := hst.texts.cell hml
                      have hsd := hst.drew
                      have HCt : Hid ((seen (fun j => (S j).toList) len).contains (S m).toList = true) := seen_has (fun j => (S j).toList) hml
                      go_wp2
                      go_region_held3 (fun w' => w'.cell? ⟨w2.heap.size, 0, none⟩ = some (.map (some (w1.heap.size + 1))) ∧ w'.cell? ⟨w2.heap.size, 1, none⟩ = some (.map (some (w1.heap.size + 1 + 1))) ∧ w'.cell? ⟨w.heap.size, m, none⟩ = some (.string (S m))) (first | go_keep | exact ⟨hs4.c0, hs4.c1, hs4.texts.cell hml⟩)
                        (first | (go_at_call 12; refine (number12_old (w1.heap.size + 1) (w1.heap.size + 1 + 1) len (seen (fun j => (S j).toList) len) (S m) wr.drew (hS m) hsd.num HCt.out).mono ?_; rintro e w4 ⟨rfl, hN, hg⟩; have hs4 := hsd.call hN hg))
                      have hwm := hs4.want.cell hml
                      rw [wants, if_pos hml] at hwm
                      clear hst hsd hx0 hx1 hxt hN hg
                      have hx0 := hs4.c0
                      have hx1 := hs4.c1
                      have hxt := hs4.texts.cell hml
                      have hsd := hs4.drew
                      go_wp2
                      go_region_held3 (fun w' => w'.cell? ⟨w2.heap.size, 0, none⟩ = some (.map (some (w1.heap.size + 1))) ∧ w'.cell? ⟨w2.heap.size, 1, none⟩ = some (.map (some (w1.heap.size + 1 + 1))) ∧ w'.cell? ⟨w.heap.size, m, none⟩ = some (.string (S m))) (first | go_keep | exact ⟨hs5.c0, hs5.c1, hs5.texts.cell hml⟩)
                        (first | (go_at_call 14; refine (of14_yes (w1.heap.size + 1) (w1.heap.size + 1 + 1) len (seen (fun j => (S j).toList) len) (S m) w4.drew (hS m) hsd.num HCt.out).mono ?_; rintro e w5 ⟨rfl, hN, hg⟩; have hs5 := hsd.call hN hg))
                      have hwm5 := hs5.want.cell hml
                      rw [wants, if_pos hml] at hwm5
                      clear hs4 hsd hx0 hx1 hxt hN hg hwm
                      go_wp2
                      go_roundw
                      case rel => exact ⟨m, by omega, by go_num, hs5⟩
                      case measure => simp [intOf]
                    | zero =>
                      have hx0 := hst.c0
                      have hx1 := hst.c1
                      go_wp2_with fail
                      refine (number12_new (w1.heap.size + 1) (w1.heap.size + 1 + 1) len (seen (fun j => (S j).toList) len) s _ hs (by unfold maxLen; omega) (by omega) hst.num HIn.out).mono ?_
                      rintro e w6 ⟨rfl, hN, hg⟩
                      have hs6 := hst.call hN hg
                      clear hst hx0 hx1 hN hg
                      go_wp2
                      go_ret
                      exact ⟨rfl, hs6.bel⟩

end Go.Proofs.Qxb6605967a

import Derived.Test.Qxb6608572aRule
import Derived.LaidEql
namespace Go.Proofs.Qxb6608572a
open Go.ChangeShapes Go.WideShapes Go.ChangeAt Go.RowKit Go.WideMaps Go.Maps

theorem lookA (M : Text → Option Avn) (s : ByteArray) (hs : s.size ≤ maxLen) : ∃ (u : Avn) (v : Bool), ∀ (w : World) (o : Option Nat) (n : Nat), MpO rdA w o n M →
    (Instr.lookup 41 (.map o) (.string s) true).run Try.prog w = .ok (.tuple #[.agg #[.string u.rev, .string u.first], .bool v]) w := by
  cases h : M s.toList with
  | none => exact ⟨zA, false, fun w o n hM => hM.look_no Try.underlying41 (zero76 _) s hs h⟩
  | some u => exact ⟨u, true, fun w o n hM => hM.look_yes Try.underlying41 (zero76 _) s hs h⟩

theorem lookB (M : Text → Option Bun) (s : ByteArray) (hs : s.size ≤ maxLen) : ∃ (u : Bun) (v : Bool), ∀ (w : World) (o : Option Nat) (n : Nat), MpO rdB w o n M →
    (Instr.lookup 34 (.map o) (.string s) true).run Try.prog w = .ok (.tuple #[.agg #[.string u.rev, .string u.typ, .string u.first, .string u.last, .string u.code, .string u.msg, .string u.http, .string u.commit], .bool v]) w := by
  cases h : M s.toList with
  | none => exact ⟨zB, false, fun w o n hM => hM.look_no Try.underlying34 (zero68 _) s hs h⟩
  | some u => exact ⟨u, true, fun w o n hM => hM.look_yes Try.underlying34 (zero68 _) s hs h⟩

theorem lookS (M : Text → Option ByteArray) (s : ByteArray) (hs : s.size ≤ maxLen) : ∃ (u : ByteArray) (v : Bool), ∀ (w : World) (o : Option Nat) (n : Nat), MpO rdS w o n M →
    (Instr.lookup 29 (.map o) (.string s) true).run Try.prog w = .ok (.tuple #[.string u, .bool v]) w := by
  cases h : M s.toList with
  | none => exact ⟨ByteArray.empty, false, fun w o n hM => hM.look_no Try.underlying29 (zero9 _) s hs h⟩
  | some u => exact ⟨u, true, fun w o n hM => hM.look_yes Try.underlying29 (zero9 _) s hs h⟩

set_option maxHeartbeats 1000000 in
set_option maxRecDepth 100000 in
theorem same17 (ao bo : Option Nat) (na nb : Nat) (M : Text → Option Avn) (ba : Option Addr) (bn bc : Nat) (BG : Nat → Nat → ByteArray) (ka : Option Addr) (kn kc : Nat) (KG : Nat → Nat → ByteArray) (w : World)
    (hbn : bn ≤ 4096) (hkn : kn ≤ 4096) (hB : Rws w ba bn 9 BG) (hK : Rws w ka kn 3 KG) (hBG : ∀ i c, (BG i c).size ≤ maxLen) (hKG : ∀ i c, (KG i c).size ≤ maxLen) (hA : MpO rdA w ao na M) (hA2 : MpO rdA w bo nb M) :
    Calls Try.prog 17 #[.map ao, .map bo, .slice ba bn bc, .slice ka kn kc] w fun e w' => e = .returned (.bool true) ∧ Below w.heap.size w w' := by
  obtain ⟨L, hL, _⟩ := hA.keys
  have hlen1 := hA.len Try.underlying41 hL
  have hlen2 := hA2.len Try.underlying41 hL
  have hAlt := hA.lt
  have hA2lt := hA2.lt
  clear hL
  go_enter Try.func17, Try.ntmps17
  go_wp2
  clear hlen1 hlen2
  go_loopw [9] (fun y wr => ∃ k : Nat, k ≤ kn ∧ y = .int .i64 (k : Int) ∧ Below w.heap.size w wr) (fun y _ => kn - (intOf y).toNat)
  case atStart => exact ⟨0, Nat.zero_le _, rfl, Below.refl _ _⟩
  case round =>
    obtain ⟨k, hk, rfl, hbel⟩ := hrel
    have hsz := hbel.size
    by_cases hlt : k < kn
    · obtain ⟨b, off, ha, hb, hc⟩ := hK.cells hlt
      have hidx := run_row Try.underlying26 size63 ha kn kc k hlt
      have hc0 := (hbel.cell (p := ⟨b, off + k * 3 + 0, none⟩) hb).trans (hc 0 (by omega))
      simp only [Nat.add_zero] at hc0
      have hb' : b < wr.heap.size := by omega
      clear ha hc
      obtain ⟨u, v, hl⟩ := lookA M (KG k 0) (hKG k 0)
      have h1 : MpO rdA wr ao na M := hA.of_blocks (fun b e => hbel.block b (hAlt b e))
      have h2 : MpO rdA wr bo nb M := hA2.of_blocks (fun b e => hbel.block b (hA2lt b e))
      have hl1 := hl wr ao na h1
      have hl2 := fun x => hl (wr.alloc x) bo nb (h2.alloc x)
      have hneq := neq76 u.rev u.first
      have hgd := gd76
      clear hl h1 h2
      cases v <;>
      · go_wp2
        go_roundw
        case rel => exact ⟨k + 1, by omega, by go_num, (hbel.alloc hsz _).alloc (by simp; omega) _⟩
        case measure => simp [intOf]; omega
    · go_wp2
      go_loopw [14] (fun y wr => ∃ k : Nat, k ≤ bn ∧ y = .int .i64 (k : Int) ∧ Below w.heap.size w wr) (fun y _ => bn - (intOf y).toNat)
      case atStart => exact ⟨0, Nat.zero_le _, rfl, hbel⟩
      case round =>
        clear hbel hsz hlt hk
        obtain ⟨k, hk, rfl, hbel⟩ := hrel
        have hsz := hbel.size
        by_cases hlt : k < bn
        · obtain ⟨b, off, ha, hb, hc⟩ := hB.cells hlt
          have hidx := run_row Try.underlying23 size57 ha bn bc k hlt
          have hc0 := (hbel.cell (p := ⟨b, off + k * 9 + 0, none⟩) hb).trans (hc 0 (by omega))
          simp only [Nat.add_zero] at hc0
          have hb' : b < wr.heap.size := by omega
          clear ha hc
          obtain ⟨u, v, hl⟩ := lookA M (BG k 0) (hBG k 0)
          have h1 : MpO rdA wr ao na M := hA.of_blocks (fun b e => hbel.block b (hAlt b e))
          have h2 : MpO rdA wr bo nb M := hA2.of_blocks (fun b e => hbel.block b (hA2lt b e))
          have hl1 := hl wr ao na h1
          have hl2 := fun x => hl (wr.alloc x) bo nb (h2.alloc x)
          have hneq := neq76 u.rev u.first
          have hgd := gd76
          clear hl h1 h2
          cases v <;>
          · go_wp2
            go_roundw
            case rel => exact ⟨k + 1, by omega, by go_num, (hbel.alloc hsz _).alloc (by simp; omega) _⟩
            case measure => simp [intOf]; omega
        · go_wp2
          go_ret
          exact ⟨rfl, hbel⟩

theorem neqPtr (t e : TypeId) (ht : Try.prog.underlying t = some (.pointer e)) (he : (Try.prog.info? e).isSome = true) (d : Option Addr) (w : World) : (binOp .neq t (.pointer d) (.pointer d)).run Try.prog w = .ok (.bool false) w := by
  obtain ⟨j, hj⟩ := Option.isSome_iff_exists.1 he
  have h : ∀ k : Nat, (Op.equalIn (k + 1) t (.pointer d) (.pointer d)).run Try.prog w = .ok true w := by
    intro k
    cases d
    · simp [Op.equalIn, run_underlying ht]
    · simp [Op.equalIn, run_underlying ht, sizeOf, typeInfo, hj, run_sameAddr_same]
  simp only [binOp]
  simp [Op.equal, Op.maxDepth, h 9999]

/-- The two summaries that are held against each other, in their boxes. -/
structure S2 (w : World) (v1 v2 : Nat → Value) (wr : World) : Prop where
  one : wr.rowIs w.heap.size 38 12 v1
  two : wr.rowIs (w.heap.size + 1) 38 12 v2
  bel : Below w.heap.size w wr

theorem S2.grown {w : World} {v1 v2 : Nat → Value} {wr w' : World} (h : S2 w v1 v2 wr) (hg : wr.grownBy w' none) : S2 w v1 v2 w' :=
  ⟨h.one.of_block (hg.block _ h.one.lt (by simp)), h.two.of_block (hg.block _ h.two.lt (by simp)), h.bel.grown hg h.bel.size (fun j hj => by cases hj)⟩
theorem S2.alloc {w : World} {v1 v2 : Nat → Value} {wr : World} (h : S2 w v1 v2 wr) (o : Obj) : S2 w v1 v2 (wr.alloc o) := h.grown (World.grownBy_alloc _ _ none)
theorem S2.drewN {w : World} {v1 v2 : Nat → Value} {wr : World} (h : S2 w v1 v2 wr) (q : Nat) : S2 w v1 v2 (wr.drewN q) := ⟨h.one, h.two, below_drewN h.bel q⟩
theorem S2.drew {w : World} {v1 v2 : Nat → Value} {wr : World} (h : S2 w v1 v2 wr) : S2 w v1 v2 wr.drew := h.drewN 1

theorem s2_start (w : World) (v1 v2 : Nat → Value) (a c : Array Value) (ha : a.size = 12) (hc : c.size = 12) (hf : ∀ j, j < 12 → a[j]? = some (v1 j)) (hv : ∀ j, j < 12 → c[j]? = some (v2 j)) : S2 w v1 v2 ((w.alloc (.cells a 38)).alloc (.cells c 38)) := by
  have h1 := World.rowIs_alloc w a 38 v1 (by rw [ha]; exact hf)
  have h2 := World.rowIs_alloc (w.alloc (.cells a 38)) c 38 v2 (by rw [hc]; exact hv)
  rw [ha] at h1
  rw [hc] at h2
  have e : (w.alloc (.cells a 38)).heap.size = w.heap.size + 1 := by simp
  rw [e] at h2
  exact ⟨h1.alloc _, h2, ((Below.refl _ _).alloc (Nat.le_refl _) _).alloc (by simp) _⟩

set_option maxHeartbeats 1000000 in
set_option maxRecDepth 100000 in
theorem same16 (i ins ver : ByteArray) (lo : Option Nat) (st : ByteArray) (bo bo2 : Option Nat) (d dl : Option Addr) (bl : Bool) (ln n1 n2 : Nat) (LM : Text → Option ByteArray) (M : Text → Option Bun) (la : Option Addr) (lln lc : Nat) (LG : Nat → Nat → ByteArray) (ba : Option Addr) (bn bc : Nat) (BG : Nat → Nat → ByteArray) (w : World)
    (hlln : lln ≤ 4096) (hbn : bn ≤ 4096) (hL : Rws w la lln 2 LG) (hB : Rws w ba bn 9 BG) (hLG : ∀ i c, (LG i c).size ≤ maxLen) (hBG : ∀ i c, (BG i c).size ≤ maxLen) (hM : MpO rdS w lo ln LM) (hA : MpO rdB w bo n1 M) (hA2 : MpO rdB w bo2 n2 M) :
    Calls Try.prog 16 #[.agg #[.string i, .string ins, .string ver, .map lo, .int .u64 0, .int .i64 0, .pointer none, .string st, .map bo, .pointer d, .pointer dl, .bool bl],
      .agg #[.string i, .string ins, .string ver, .map lo, .int .u64 0, .int .i64 0, .pointer none, .string st, .map bo2, .pointer d, .pointer dl, .bool bl], .slice la lln lc, .slice ba bn bc] w fun e w' => e = .returned (.bool true) ∧ Below w.heap.size w w' := by
  obtain ⟨L, hL1, _⟩ := hM.keys
  obtain ⟨L2, hL2, _⟩ := hA.keys
  have hMlt := hM.lt
  have hAlt := hA.lt
  have hA2lt := hA2.lt
  have q := fun (w : World) (r : Option Nat) => run_eql_map_nil (P := Try.prog) w _ _ _ r Try.underlying29
  have p1 := neqPtr 35 71 Try.underlying35 (by kernel_rfl) d
  have p2 := neqPtr 36 73 Try.underlying36 (by kernel_rfl) dl
  have t1 := neq33
  have t2 := gd33
  have hlen := fun x y ty => ((hM.alloc x).alloc y).len Try.underlying29 hL1 ty
  go_enter Try.func16, Try.ntmps16
  go_wp2
  have hs2 := s2_start w (sval i ins ver lo st bo d dl bl) (sval i ins ver lo st bo2 d dl bl)
    #[.string i, .string ins, .string ver, .map lo, .int .u64 0, .int .i64 0, .pointer none, .string st, .map bo, .pointer d, .pointer dl, .bool bl]
    #[.string i, .string ins, .string ver, .map lo, .int .u64 0, .int .i64 0, .pointer none, .string st, .map bo2, .pointer d, .pointer dl, .bool bl]
    rfl rfl (all12 rfl rfl rfl rfl rfl rfl rfl rfl rfl rfl rfl rfl) (all12 rfl rfl rfl rfl rfl rfl rfl rfl rfl rfl rfl rfl)
  generalize (w.alloc (.cells #[.string i, .string ins, .string ver, .map lo, .int .u64 0, .int .i64 0, .pointer none, .string st, .map bo, .pointer d, .pointer dl, .bool bl] 38)).alloc (.cells #[.string i, .string ins, .string ver, .map lo, .int .u64 0, .int .i64 0, .pointer none, .string st, .map bo2, .pointer d, .pointer dl, .bool bl] 38) = wa at hs2 ⊢
  clear hlen p1 p2 t1 t2 q
  go_loopw [9] (fun y wr => ∃ k : Nat, k ≤ lln ∧ y = .int .i64 (k : Int) ∧ S2 w (sval i ins ver lo st bo d dl bl) (sval i ins ver lo st bo2 d dl bl) wr) (fun y _ => lln - (intOf y).toNat)
  case atStart => exact ⟨0, Nat.zero_le _, rfl, hs2⟩
  case round =>
    clear hs2
    obtain ⟨k, hk, rfl, hs2⟩ := hrel
    have hsz := hs2.bel.size
    by_cases hlt : k < lln
    · obtain ⟨b, off, ha, hb, hc⟩ := hL.cells hlt
      have hidx := run_row Try.underlying22 size55 ha lln lc k hlt
      have hc0 := (hs2.bel.cell (p := ⟨b, off + k * 2 + 0, none⟩) hb).trans (hc 0 (by omega))
      simp only [Nat.add_zero] at hc0
      clear ha hc
      obtain ⟨u, v, hl⟩ := lookS LM (LG k 0) (hLG k 0)
      have h1 : MpO rdS wr lo ln LM := hM.of_blocks (fun b e => hs2.bel.block b (hMlt b e))
      have hl1 := fun q => hl (wr.drewN q) lo ln h1
      have c1 : wr.cell? ⟨w.heap.size, 3, none⟩ = some (.map lo) := hs2.one.cell (i := 3) (by omega)
      have c2 : wr.cell? ⟨w.heap.size + 1, 3, none⟩ = some (.map lo) := hs2.two.cell (i := 3) (by omega)
      clear hl h1
      cases v <;>
      · go_wp2
        go_quiet (fail)
        go_wp2
        go_quiet (fail)
        go_wp2
        go_roundw
        case rel => first | exact ⟨k + 1, by omega, by go_num, hs2.drewN _⟩ | exact ⟨k + 1, by omega, by go_num, (hs2.drewN _).drewN _⟩
        case measure => simp [intOf]; omega
    · have c1 : wr.cell? ⟨w.heap.size, 8, none⟩ = some (.map bo) := hs2.one.cell (i := 8) (by omega)
      have c2 : wr.cell? ⟨w.heap.size + 1, 8, none⟩ = some (.map bo2) := hs2.two.cell (i := 8) (by omega)
      have hlen1 := (hA.of_blocks (w' := wr) (fun b e => hs2.bel.block b (hAlt b e))).len Try.underlying34 hL2
      have hlen2 := (hA2.of_blocks (w' := wr) (fun b e => hs2.bel.block b (hA2lt b e))).len Try.underlying34 hL2
      go_wp2
      clear c1 c2 hlen1 hlen2
      go_loopw [14] (fun y wr => ∃ k : Nat, k ≤ bn ∧ y = .int .i64 (k : Int) ∧ S2 w (sval i ins ver lo st bo d dl bl) (sval i ins ver lo st bo2 d dl bl) wr) (fun y _ => bn - (intOf y).toNat)
      case atStart => exact ⟨0, Nat.zero_le _, rfl, hs2⟩
      case round =>
        clear hs2 hsz hlt hk
        obtain ⟨k, hk, rfl, hs2⟩ := hrel
        have hsz := hs2.bel.size
        by_cases hlt : k < bn
        · obtain ⟨b, off, ha, hb, hc⟩ := hB.cells hlt
          have hidx := run_row Try.underlying23 size57 ha bn bc k hlt
          have hc0 := (hs2.bel.cell (p := ⟨b, off + k * 9 + 0, none⟩) hb).trans (hc 0 (by omega))
          simp only [Nat.add_zero] at hc0
          have hb' : b < wr.heap.size := by omega
          clear ha hc
          obtain ⟨u, v, hl⟩ := lookB M (BG k 0) (hBG k 0)
          have h1 : MpO rdB wr bo n1 M := hA.of_blocks (fun b e => hs2.bel.block b (hAlt b e))
          have h2 : MpO rdB wr bo2 n2 M := hA2.of_blocks (fun b e => hs2.bel.block b (hA2lt b e))
          have hl1 := hl wr.drew bo n1 h1
          have hl1' := fun x => hl (wr.alloc x).drew bo n1 (h1.alloc x)
          have hl2 := fun x => hl (wr.alloc x).drew.drew bo2 n2 (h2.alloc x)
          have hl2' := fun x y => hl ((wr.alloc x).alloc y).drew.drew bo2 n2 ((h2.alloc x).alloc y)
          have c1' : ∀ x, (wr.alloc x).cell? ⟨w.heap.size, 8, none⟩ = some (.map bo) := fun x => (hs2.alloc x).one.cell (i := 8) (by omega)
          have c2' : ∀ x y, ((wr.alloc x).alloc y).cell? ⟨w.heap.size + 1, 8, none⟩ = some (.map bo2) := fun x y => ((hs2.alloc x).alloc y).two.cell (i := 8) (by omega)
          have c1 : wr.cell? ⟨w.heap.size, 8, none⟩ = some (.map bo) := hs2.one.cell (i := 8) (by omega)
          have c2 : ∀ x, (wr.alloc x).cell? ⟨w.heap.size + 1, 8, none⟩ = some (.map bo2) := fun x => (hs2.alloc x).two.cell (i := 8) (by omega)
          have hneq := neq68 u.rev u.typ u.first u.last u.code u.msg u.http u.commit
          have hgd := gd68
          clear hl h1 h2
          cases v <;>
          · go_wp2
            go_region
            go_wp2
            go_region
            go_wp2
            go_roundw
            case rel => exact ⟨k + 1, by omega, by go_num, ((hs2.alloc _).alloc _).drew.drew⟩
            case measure => simp [intOf]; omega
        · go_wp2
          go_ret
          exact ⟨rfl, hs2.bel⟩

end Go.Proofs.Qxb6608572a

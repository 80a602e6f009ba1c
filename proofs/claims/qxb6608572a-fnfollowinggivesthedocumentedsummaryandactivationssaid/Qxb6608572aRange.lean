import Derived.Test.Qxb6608572aLeaf3
namespace Go.Proofs.Qxb6608572a
open Go.ChangeShapes Go.WideShapes Go.ChangeAt Go.RowKit Go.WideMaps Go.Maps

/-! ### ranging over a map value, nil or not -/
/-- The loop under way: block 'it' is its iterator; 'left x': is the entry at x still to come? -/
def Rg {V : Type} (r : Rd V) (w : World) (o : Option Nat) (it n : Nat) (M : Text → Option V) (left : Text → Bool) (cnt : Nat) : Prop :=
  (o = none ∧ (M = fun _ => none) ∧ (∃ a s c, w.heap[it]? = some (.mapIter none a s c)) ∧ (∀ x, left x = false) ∧ cnt = 0) ∨
  ∃ b D lf, o = some b ∧ w.ranges Try.prog 9 r.R b it n D lf cnt ∧ Holds D M ∧ ∀ x, left x = lf (.string x)

def rgLeft (w : World) (o : Option Nat) (it : Nat) : Nat := match o with | some b => w.rangeLeft b it | none => 0

section
variable {V : Type} {r : Rd V} {w w' : World} {o : Option Nat} {it n : Nat} {M : Text → Option V} {left : Text → Bool} {cnt : Nat}

theorem Rg.left_eq (h : Rg r w o it n M left cnt) : rgLeft w o it = cnt := by
  rcases h with ⟨rfl, _, _, _, rfl⟩ | ⟨b, D, lf, rfl, h, _⟩
  · rfl
  · exact h.left_eq

theorem Rg.it_lt (h : Rg r w o it n M left cnt) : it < w.heap.size := by
  rcases h with ⟨rfl, _, ⟨a, s, c, hi⟩, _, rfl⟩ | ⟨b, D, lf, rfl, h, _⟩
  · exact (Array.getElem?_eq_some_iff.1 hi).1
  · exact h.lt

theorem Rg.map (h : Rg r w o it n M left cnt) : MpO r w o n M := by
  rcases h with ⟨rfl, hM, _⟩ | ⟨b, D, lf, rfl, h, hD, _⟩
  · exact Or.inl ⟨rfl, hM⟩
  · exact Or.inr ⟨b, rfl, D, h.owns, hD⟩

theorem Rg.kept {row : Option Nat} (h : Rg r w o it n M left cnt) (hg : w.grownBy w' row) (hb : ∀ b, o = some b → some b ≠ row) (hi : some it ≠ row) : Rg r w' o it n M left cnt := by
  have hlt := h.it_lt
  rcases h with ⟨rfl, hM, ⟨a, s, c, hh⟩, hl, hc⟩ | ⟨b, D, lf, rfl, h, hD, hl⟩
  · exact Or.inl ⟨rfl, hM, ⟨a, s, c, (hg.block it hlt hi).trans hh⟩, hl, hc⟩
  · exact Or.inr ⟨b, D, lf, rfl, h.kept hg (hb b rfl) hi, hD, hl⟩

theorem Rg.alloc (h : Rg r w o it n M left cnt) (x : Obj) : Rg r (w.alloc x) o it n M left cnt := h.kept (World.grownBy_alloc w x none) (fun b _ => by simp) (by simp)

theorem MpO.range {t e : TypeId} (h : MpO r w o n M) (ht : Try.prog.underlying t = some (.map 9 e)) :
    ∃ w' cnt, (Instr.range t (.map o)).run Try.prog w = .ok (.pointer (some ⟨w.heap.size, 0, none⟩)) w' ∧ Rg r w' o w.heap.size n M (fun x => (M x).isSome) cnt ∧ cnt ≤ n ∧ w.grownBy w' none ∧ w'.heap.size = w.heap.size + 1 := by
  rcases h with ⟨rfl, rfl⟩ | ⟨b, rfl, D, hown, hD⟩
  · exact ⟨_, 0, run_range_nilMap w t 9 e ht, Or.inl ⟨rfl, rfl, ⟨0, #[], 0, (MapKept.heap_alloc w _).1⟩, fun _ => rfl, rfl⟩, Nat.zero_le _, World.grownBy_alloc _ _ _, by simp⟩
  · obtain ⟨w', h1, h2, h3, h4⟩ := hown.range law ht
    exact ⟨w', _, h1, Or.inr ⟨b, D, _, rfl, h2, hD, fun x => (hD.has x).symm⟩, hown.size_le, h3, h4⟩

theorem Rg.next (h : Rg r w o it n M left cnt) (ty : TypeId) :
    (cnt = 0 ∧ (∀ x, left x = false) ∧ (Instr.next (.pointer (some ⟨it, 0, none⟩)) false ty).run Try.prog w = .ok (.tuple #[.bool false]) w) ∨
    ∃ (s : ByteArray) (v : V) (w' : World) (cnt' : Nat), s.size ≤ maxLen ∧ left s.toList = true ∧ M s.toList = some v ∧ (Instr.next (.pointer (some ⟨it, 0, none⟩)) false ty).run Try.prog w = .ok (.tuple #[.bool true, .string s, r.val v]) w' ∧
      Rg r w' o it n M (fun x => left x && !(x == s.toList)) cnt' ∧ cnt' < cnt ∧ w.grownBy w' (some it) ∧ w'.heap.size = w.heap.size ∧
      (Instr.entry (.pointer (some ⟨it, 0, none⟩))).run Try.prog w' = .ok (.tuple #[.string s, r.val v]) w' := by
  rcases h with ⟨rfl, hM, ⟨a, s, c, hh⟩, hl, hc⟩ | ⟨b, D, lf, rfl, h, hD, hl⟩
  · refine Or.inl ⟨hc, hl, ?_⟩
    simp only [Instr.next, getObj, Sem.run_bind, Sem.run, hh, Result.andThen]
    rfl
  · rcases h.next law ty with ⟨h0, hl0, hrun⟩ | ⟨key, v, kl, y, w', cnt', hkey, hlk, hv, hat, hrun, hrg, hlt, hgr, hsz, hen⟩
    · exact Or.inl ⟨h0, fun x => by rw [hl x, hl0], hrun⟩
    · obtain ⟨s, rfl, rfl, hs⟩ := key_inv hkey
      obtain ⟨u, rfl, rfl⟩ := r.inv _ _ hv
      have hhas := Maps.has_true_of_atKey hat
      have hMu : M s.toList = some u := by
        cases hm : M s.toList with
        | none => rw [hD.no _ hm] at hhas; cases hhas
        | some u' =>
          have := ((hD.yes _ _ hm).2 .nil).symm.trans (hat .nil)
          simp at this
          rw [this]
      refine Or.inr ⟨s, u, w', cnt', hs, by rw [hl]; exact hlk, hMu, hrun, Or.inr ⟨b, D, _, rfl, hrg, hD, fun x => ?_⟩, hlt, hgr, hsz, hen⟩
      show (left x && !(x == s.toList)) = (lf (.string x) && !(Lit.string x).sameKey (.string s.toList))
      rw [hl x]
      rfl

end

section
variable {V : Type} {r : Rd V} (w : World) {ops : Array Oper} {rest : List Oper} {o : Oper} {a : Act} {Q : Exit → Act → World → Prop}

/-- 'range m' at the operation. -/
theorem wpList_range (hg : o.guard = none) (m : Operand) (t : TypeId) (hop : o.op = Op.range t m) (e : TypeId) (ht : Try.prog.underlying t = some (.map 9 e)) (mo : Option Nat) (n : Nat) (M : Text → Option V)
    (hm : a.eval m = .map mo) (h : MpO r w mo n M)
    (hK : ∀ w' cnt, Rg r w' mo w.heap.size n M (fun x => (M x).isSome) cnt → cnt ≤ n → w.grownBy w' none → w'.heap.size = w.heap.size + 1 → wpList Try.prog ops Q rest (a.put o.dst (.pointer (some ⟨w.heap.size, 0, none⟩))) w') :
    wpList Try.prog ops Q (o :: rest) a w := by
  refine wpList_plain hg fun K' hK' => ?_
  obtain ⟨w', cnt, hrun, r1, r2, r3, r4⟩ := h.range ht
  unfold Oper.wp
  simp [execOp, hop, hm, hrun, Result.andThen]
  exact hK' _ _ (hK w' cnt r1 r2 r3 r4)

/-- The step at the operation. -/
theorem wpList_next (hg : o.guard = none) (p : Operand) (hop : o.op = Op.next p false) (mo : Option Nat) (it n : Nat) (M : Text → Option V) (left : Text → Bool) (cnt : Nat)
    (hit : a.eval p = .pointer (some ⟨it, 0, none⟩)) (h : Rg r w mo it n M left cnt)
    (hDone : cnt = 0 → (∀ x, left x = false) → wpList Try.prog ops Q rest (a.put o.dst (.tuple #[.bool false])) w)
    (hMore : ∀ (s : ByteArray) (v : V) (w' : World) (cnt' : Nat), s.size ≤ maxLen → left s.toList = true → M s.toList = some v → Rg r w' mo it n M (fun x => left x && !(x == s.toList)) cnt' → cnt' < cnt →
      w.grownBy w' (some it) → w'.heap.size = w.heap.size → (Instr.entry (.pointer (some ⟨it, 0, none⟩))).run Try.prog w' = .ok (.tuple #[.string s, r.val v]) w' → wpList Try.prog ops Q rest (a.put o.dst (.tuple #[.bool true, .string s, r.val v])) w') :
    wpList Try.prog ops Q (o :: rest) a w := by
  refine wpList_plain hg fun K' hK' => ?_
  unfold Oper.wp
  rcases h.next o.type with ⟨h0, hl, hrun⟩ | ⟨s, v, w', cnt', hs, hls, hM, hrun, hrg, hlt, hgr, hsz, hen⟩
  · simp [execOp, hop, hit, hrun, Result.andThen]
    exact hK' _ _ (hDone h0 hl)
  · simp [execOp, hop, hit, hrun, Result.andThen]
    exact hK' _ _ (hMore s v w' cnt' hs hls hM hrg hlt hgr hsz hen)

/-- .. over activations. -/
theorem wpList_nextA (hg : o.guard = none) (p : Operand) (hop : o.op = Op.next p false) (mo : Option Nat) (it n : Nat) (M : Text → Option Avn) (left : Text → Bool) (cnt : Nat)
    (hit : a.eval p = .pointer (some ⟨it, 0, none⟩)) (h : Rg rdA w mo it n M left cnt)
    (hDone : cnt = 0 → (∀ x, left x = false) → wpList Try.prog ops Q rest (a.put o.dst (.tuple #[.bool false])) w)
    (hMore : ∀ (s : ByteArray) (v : Avn) (w' : World) (cnt' : Nat), s.size ≤ maxLen → left s.toList = true → M s.toList = some v → Rg rdA w' mo it n M (fun x => left x && !(x == s.toList)) cnt' → cnt' < cnt →
      w.grownBy w' (some it) → w'.heap.size = w.heap.size → (Instr.entry (.pointer (some ⟨it, 0, none⟩))).run Try.prog w' = .ok (.tuple #[.string s, .agg #[.string v.rev, .string v.first]]) w' →
      wpList Try.prog ops Q rest (a.put o.dst (.tuple #[.bool true, .string s, .agg #[.string v.rev, .string v.first]])) w') :
    wpList Try.prog ops Q (o :: rest) a w := wpList_next w hg p hop mo it n M left cnt hit h hDone hMore

/-- .. over bundles. -/
theorem wpList_nextB (hg : o.guard = none) (p : Operand) (hop : o.op = Op.next p false) (mo : Option Nat) (it n : Nat) (M : Text → Option Bun) (left : Text → Bool) (cnt : Nat)
    (hit : a.eval p = .pointer (some ⟨it, 0, none⟩)) (h : Rg rdB w mo it n M left cnt)
    (hDone : cnt = 0 → (∀ x, left x = false) → wpList Try.prog ops Q rest (a.put o.dst (.tuple #[.bool false])) w)
    (hMore : ∀ (s : ByteArray) (v : Bun) (w' : World) (cnt' : Nat), s.size ≤ maxLen → left s.toList = true → M s.toList = some v → Rg rdB w' mo it n M (fun x => left x && !(x == s.toList)) cnt' → cnt' < cnt →
      w.grownBy w' (some it) → w'.heap.size = w.heap.size → (Instr.entry (.pointer (some ⟨it, 0, none⟩))).run Try.prog w' = .ok (.tuple #[.string s, .agg #[.string v.rev, .string v.typ, .string v.first, .string v.last, .string v.code, .string v.msg, .string v.http, .string v.commit]]) w' →
      wpList Try.prog ops Q rest (a.put o.dst (.tuple #[.bool true, .string s, .agg #[.string v.rev, .string v.typ, .string v.first, .string v.last, .string v.code, .string v.msg, .string v.http, .string v.commit]])) w') :
    wpList Try.prog ops Q (o :: rest) a w := wpList_next w hg p hop mo it n M left cnt hit h hDone hMore

/-- 'm[k] = v' at the operation. -/
theorem wpList_store (hg : o.guard = none) (m x v : Operand) (t : TypeId) (hop : o.op = Op.mapUpdate t m x v) (e : TypeId) (ht : Try.prog.underlying t = some (.map 9 e)) (b n : Nat) (M : Text → Option V)
    (hm : a.eval m = .map (some b)) (h : Mp r w b n M) (hn : n < maxLen) (s : ByteArray) (u : V) (hx : a.eval x = .string s) (hs : s.size ≤ maxLen) (hv : a.eval v = r.val u)
    (hK : ∀ w', Mp r w' b (n + 1) (upd M s.toList u) → w.grownBy w' (some b) → wpList Try.prog ops Q rest (a.put o.dst undef) w') :
    wpList Try.prog ops Q (o :: rest) a w := by
  refine wpList_plain hg fun K' hK' => ?_
  obtain ⟨w', hrun, r1, r2⟩ := h.store ht hn s hs u
  unfold Oper.wp
  simp [execOp, hop, hm, hx, hv, hrun, Result.andThen]
  exact hK' _ _ (hK w' r1 r2)

end

/-! ### maps.Copy into a new map -/
theorem copy_start {V : Type} (M : Text → Option V) : (fun _ => none) = fun x => if (M x).isSome then none else M x := by
  funext x
  cases h : M x <;> simp

theorem copy_step {V : Type} (M : Text → Option V) (left : Text → Bool) (s : Text) (v : V) (hv : M s = some v) :
    upd (fun x => if left x then none else M x) s v = fun x => if (left x && !(x == s)) then none else M x := by
  funext x
  unfold upd
  by_cases h : x = s
  · subst h; simp [hv]
  · simp [h]

theorem copy_end {V : Type} (M : Text → Option V) (left : Text → Bool) (h : ∀ x, left x = false) : (fun x => if left x then none else M x) = M := by
  funext x; simp [h x]

set_option maxRecDepth 100000 in
theorem copy26 (d n : Nat) (o : Option Nat) (M : Text → Option Avn) (w : World) (hn : n ≤ 100000) (hd : Mp rdA w d 0 (fun _ => none)) (hM : MpO rdA w o n M) (hne : ∀ b, o = some b → b ≠ d) :
    Calls Try.prog 26 #[.map (some d), .map o] w fun e w' => e = .returned (.tuple #[]) ∧ Mp rdA w' d n M ∧ w.grownBy w' (some d) := by
  go_enter Try.func26, Try.ntmps26
  go_wp2_with (first
    | (at_range; refine wpList_range _ rfl _ 41 rfl 76 Try.underlying41 o n M rfl hM ?_; intro w0 cnt0 hrg0 hc0 hg0 hs0)
    | go_in)
  go_frame
  go_loopw [4] (fun _ wr => ∃ (left : Text → Bool) (cnt k : Nat), Rg rdA wr o w.heap.size n M left cnt ∧ k + cnt ≤ n ∧ Mp rdA wr d k (fun x => if left x then none else M x) ∧ w.grownBy wr (some d)) (fun _ wr => rgLeft wr o w.heap.size)
  case atStart => exact ⟨_, cnt0, 0, hrg0, by omega, (hd.kept hg0 (by simp)).congr (fun x => congrFun (copy_start M) x), hg0.but _⟩
  case round =>
    obtain ⟨left, cnt, k, hrg, hkc, hout, hgw⟩ := hrel
    have hdlt := hd.lt
    go_wp2_with (first
      | (at_next; refine wpList_nextA _ rfl _ rfl o w.heap.size n M left cnt rfl hrg ?_ ?_)
      | go_in)
    · intro hc hl
      go_wp2
      go_end0
      exact ⟨rfl, (hout.congr (fun x => congrFun (copy_end M left hl) x)).mono (by omega), hgw⟩
    · intro s v w1 cnt1 hs hls hMv hrg1 hlt hg1 hs1 hen
      have hout1 := hout.kept hg1 (by simp; omega)
      have hsz := hgw.size
      go_wp2_with (first
        | (at_mapUpdate; refine wpList_store (r := rdA) _ rfl _ _ _ 41 rfl 76 Try.underlying41 d k _ rfl (hout1.alloc _) (by unfold maxLen; omega) s v rfl hs rfl ?_; intro w2 hout2 hg2; go_frame)
        | go_in)
      have hrg2 := (hrg1.alloc _).kept hg2 (fun b e h => hne b e (Option.some.inj h)) (by simp; omega)
      refine ⟨⟨_, cnt1, k + 1, hrg2, by omega, hout2.congr (fun x => congrFun (copy_step M left s.toList v hMv) x), ?_⟩, by rw [hrg2.left_eq, hrg.left_eq]; exact hlt⟩
      have h1 := hgw.andThen hg1 (fun j hj => by cases hj; exact Or.inl (Nat.le_refl _))
      have h2 := h1.andThen (World.grownBy_alloc w1 (.cells #[.string v.rev, .string v.first] 76) none) (fun j hj => by cases hj)
      exact h2.andThen hg2 (fun j hj => Or.inr hj)

/-! ### Activations.Then -/
def thenM (KM SM : Text → Option Avn) (x : Text) : Option Avn :=
  match SM x with
  | none => KM x
  | some a => match KM x with
    | none => some a
    | some k => if k.rev.toList == a.rev.toList then some k else some a

theorem then_start (KM SM : Text → Option Avn) : KM = fun x => if (SM x).isSome then KM x else thenM KM SM x := by
  funext x
  cases h : SM x <;> simp [thenM, h]

theorem then_store (KM SM : Text → Option Avn) (left : Text → Bool) (s : Text) (a : Avn) (h : thenM KM SM s = some a) :
    upd (fun x => if left x then KM x else thenM KM SM x) s a = fun x => if (left x && !(x == s)) then KM x else thenM KM SM x := by
  funext x
  unfold upd
  by_cases e : x = s
  · subst e; simp [h]
  · simp [e]

theorem then_stay (KM SM : Text → Option Avn) (left : Text → Bool) (s : Text) (hl : left s = true) (h : thenM KM SM s = KM s) :
    (fun x => if left x then KM x else thenM KM SM x) = fun x => if (left x && !(x == s)) then KM x else thenM KM SM x := by
  funext x
  by_cases e : x = s
  · subst e; simp [h, hl]
  · simp [e]

theorem then_end (KM SM : Text → Option Avn) (left : Text → Bool) (h : ∀ x, left x = false) : (fun x => if left x then KM x else thenM KM SM x) = thenM KM SM := by
  funext x; simp [h x]

set_option maxRecDepth 100000 in
theorem then21 (ok ol : Option Nat) (nk nl : Nat) (KM SM : Text → Option Avn) (w : World) (hn : nk + nl ≤ 100000) (hK : MpO rdA w ok nk KM) (hS : MpO rdA w ol nl SM) :
    Calls Try.prog 21 #[.map ok, .map ol] w fun e w' => e = .returned (.map (some w.heap.size)) ∧ Mp rdA w' w.heap.size (nk + nl) (thenM KM SM) ∧ Below w.heap.size w w' := by
  obtain ⟨LK, hLK, hlk⟩ := hK.keys
  obtain ⟨LS, hLS, hls⟩ := hS.keys
  have hlenK := hK.len Try.underlying41 hLK
  have hlenS := hS.len Try.underlying41 hLS
  have hmk := run_makeMap_hint Try.underlying41
  have hKlt := hK.lt
  have hSlt := hS.lt
  clear hLK hLS
  go_enter Try.func21, Try.ntmps21
  go_wp2_with fail
  refine (copy26 w.heap.size nk ok KM _ (by omega) (mp_made rdA w) (hK.alloc _) (fun b e => by have := hKlt b e; omega)).mono ?_
  rintro e w1 ⟨rfl, hA1, hg1⟩
  have hb1 : Below w.heap.size w w1 := ((Below.refl _ _).alloc (Nat.le_refl _) _).grown hg1 (by simp) (fun j hj => by cases hj; exact Nat.le_refl _)
  have hsz1 : w.heap.size < w1.heap.size := hA1.lt
  have hS1 : MpO rdA w1 ol nl SM := hS.of_blocks (fun b e => hb1.block b (hSlt b e))
  clear hg1 hlenK hlenS hmk
  go_wp2_with (first
    | (at_range; refine wpList_range _ rfl _ 41 rfl 76 Try.underlying41 ol nl SM rfl hS1 ?_; intro w0 cnt0 hrg0 hc0 hg0 hs0)
    | go_in)
  go_frame
  go_loopw [6] (fun _ wr => ∃ (left : Text → Bool) (cnt k : Nat), Rg rdA wr ol w1.heap.size nl SM left cnt ∧ k + cnt ≤ nk + nl ∧ Mp rdA wr w.heap.size k (fun x => if left x then KM x else thenM KM SM x) ∧ Below w.heap.size w wr ∧ w1.heap.size ≤ wr.heap.size) (fun _ wr => rgLeft wr ol w1.heap.size)
  case atStart => exact ⟨_, cnt0, nk, hrg0, by omega, (hA1.kept hg0 (by simp)).congr (fun x => congrFun (then_start KM SM) x), hb1.grown hg0 (by omega) (fun j hj => by cases hj), by omega⟩
  case round =>
    obtain ⟨left, cnt, k, hrg, hkc, hout, hbel, hw1⟩ := hrel
    clear hA1 hS1 hrg0 hg0 hb1
    go_wp2_with (first
      | (at_next; refine wpList_nextA _ rfl _ rfl ol w1.heap.size nl SM left cnt rfl hrg ?_ ?_)
      | go_in)
    · intro hc hl
      go_wp2
      go_ret
      exact ⟨rfl, (hout.congr (fun x => congrFun (then_end KM SM left hl) x)).mono (by omega), hbel⟩
    · intro s v w3 cnt3 hs hls hSv hrg3 hlt hg3 hs3 hen
      have hout3 := hout.kept hg3 (by simp; omega)
      have hbel3 : Below w.heap.size w w3 := hbel.grown hg3 (by omega) (fun j hj => by cases hj; omega)
      have hK3 : MpO rdA w3 ok nk KM := hK.of_blocks (fun b e => hbel3.block b (hKlt b e))
      cases hk : KM s.toList with
      | none =>
        have HT : Hid (thenM KM SM s.toList = some v) := by simp [Hid, thenM, hSv, hk]
        have hlook : ∀ x : Obj, (Instr.lookup 41 (.map ok) (.string s) true).run Try.prog (w3.alloc x) = .ok (.tuple #[.agg #[.string ByteArray.empty, .string ByteArray.empty], .bool false]) (w3.alloc x) := fun x => (hK3.alloc x).look_no Try.underlying41 (zero76 _) s hs hk
        clear hk hSv
        go_wp2_with (first
          | (at_mapUpdate; refine wpList_store (r := rdA) _ rfl _ _ _ 41 rfl 76 Try.underlying41 w.heap.size k _ rfl ((hout3.alloc _).alloc _) (by unfold maxLen; omega) s v rfl hs rfl ?_; intro w4 hout4 hg4; go_frame)
          | go_in)
        have hrg4 := ((hrg3.alloc _).alloc _).kept hg4 (fun b e h => by have := hSlt b e; have := Option.some.inj h; omega) (by simp; omega)
        have hs4 := hg4.size
        simp at hs4
        refine ⟨⟨_, cnt3, k + 1, hrg4, by omega, hout4.congr (fun x => congrFun (then_store KM SM left s.toList v HT.out) x), ?_, by omega⟩, by rw [hrg4.left_eq, hrg.left_eq]; exact hlt⟩
        exact ((hbel3.alloc (by omega) _).alloc (by simp; omega) _).grown hg4 (by simp; omega) (fun j hj => by cases hj; exact Nat.le_refl _)
      | some kv =>
        have hlook : ∀ x : Obj, (Instr.lookup 41 (.map ok) (.string s) true).run Try.prog (w3.alloc x) = .ok (.tuple #[.agg #[.string kv.rev, .string kv.first], .bool true]) (w3.alloc x) := fun x => (hK3.alloc x).look_yes Try.underlying41 (zero76 _) s hs hk
        cases hrv : (kv.rev.toList == v.rev.toList)
        · have HT : Hid (thenM KM SM s.toList = some v) := by simp only [Hid, thenM, hSv, hk, hrv]; rfl
          clear hk hSv
          go_wp2_with (first
            | (at_mapUpdate; refine wpList_store (r := rdA) _ rfl _ _ _ 41 rfl 76 Try.underlying41 w.heap.size k _ rfl ((hout3.alloc _).alloc _) (by unfold maxLen; omega) s v rfl hs rfl ?_; intro w4 hout4 hg4; go_frame)
            | go_in)
          have hrg4 := ((hrg3.alloc _).alloc _).kept hg4 (fun b e h => by have := hSlt b e; have := Option.some.inj h; omega) (by simp; omega)
          have hs4 := hg4.size
          simp at hs4
          refine ⟨⟨_, cnt3, k + 1, hrg4, by omega, hout4.congr (fun x => congrFun (then_store KM SM left s.toList v HT.out) x), ?_, by omega⟩, by rw [hrg4.left_eq, hrg.left_eq]; exact hlt⟩
          exact ((hbel3.alloc (by omega) _).alloc (by simp; omega) _).grown hg4 (by simp; omega) (fun j hj => by cases hj; exact Nat.le_refl _)
        · have HT : Hid (thenM KM SM s.toList = KM s.toList) := by simp only [Hid, thenM, hSv, hk, hrv]; rfl
          clear hk hSv
          go_wp2_with go_in
          have hrg4 := (hrg3.alloc (.cells #[.string v.rev, .string v.first] 76)).alloc (.cells #[.string kv.rev, .string kv.first] 76)
          refine ⟨⟨_, cnt3, k, hrg4, by omega, ((hout3.alloc _).alloc _).congr (fun x => congrFun (then_stay KM SM left s.toList hls HT.out) x), (hbel3.alloc (by omega) _).alloc (by simp; omega) _, by simp; omega⟩, by rw [hrg4.left_eq, hrg.left_eq]; exact hlt⟩

end Go.Proofs.Qxb6608572a

/-
  'map[keyVersion]opRef': a map that the call makes and only adds to: its entries as a list.
-/
import Derived.Test.Qxb6600569aBase
import Derived.Test.Qxb6600569aFam
import Derived.Test.Qxb6600569aWrPlain
import Derived.Laws.StructEq
import Derived.Maps.OwnSet
namespace Go.Proofs.Qxb6600569a
open Go.RowKit
set_option linter.unusedVariables false

/-- A key as a value; a place as a value. -/
def keyV (k : ByteArray × Int) : Value := .agg #[.string k.1, .int .i64 k.2]
def refV (r : Nat × Nat) : Value := .agg #[.int .i64 r.1, .int .i64 r.2]

/-- Block b is a map whose entries, in the order in which they came, are L. -/
def MapIs (w : World) (b : Nat) (L : List ((ByteArray × Int) × (Nat × Nat))) : Prop :=
  ∃ es clock, w.heap[b]? = some (.map es clock) ∧ es.toList.map (fun e => (e.key, e.val)) = L.map (fun x => (keyV x.1, refV x.2))

theorem MapIs.lt {w : World} {b : Nat} {L : List ((ByteArray × Int) × (Nat × Nat))} (h : MapIs w b L) : b < w.heap.size := by
  obtain ⟨es, clock, hb, _⟩ := h
  exact (Array.getElem?_eq_some_iff.1 hb).1

theorem MapIs.of_block {w w' : World} {b : Nat} {L : List ((ByteArray × Int) × (Nat × Nat))} (h : MapIs w b L) (e : w'.heap[b]? = w.heap[b]?) : MapIs w' b L := by
  obtain ⟨es, clock, hb, hL⟩ := h
  exact ⟨es, clock, e.trans hb, hL⟩

theorem MapIs.alloc {w : World} {b : Nat} {L : List ((ByteArray × Int) × (Nat × Nat))} (h : MapIs w b L) (o : Obj) : MapIs (w.alloc o) b L := h.of_block (Below.heap_alloc _ _ _ h.lt)
theorem MapIs.setCell {w : World} {b : Nat} {L : List ((ByteArray × Int) × (Nat × Nat))} (h : MapIs w b L) {a : Addr} (v : Value) (hne : b ≠ a.block) : MapIs (w.setCell a v) b L := h.of_block (Below.heap_setCell _ _ _ _ hne)

theorem toList_inj (a b : ByteArray) : a.toList = b.toList ↔ a = b := by
  rw [ByteArray.toList_eq, ByteArray.toList_eq]
  obtain ⟨⟨x⟩⟩ := a
  obtain ⟨⟨y⟩⟩ := b
  simp

theorem held75 : Try.prog.stoodInHeld 75 = false := by kernel_rfl
theorem struct75 : Try.prog.underlying 75 = some (.struct (Try.prog.fieldsOf 75)) := by kernel_rfl

theorem run_equal_key (a b : ByteArray × Int) (w : World) : (Op.equal 75 (keyV a) (keyV b)).run Try.prog w = .ok (decide (a = b)) w := by
  obtain ⟨a1, a2⟩ := a
  obtain ⟨b1, b2⟩ := b
  unfold Op.equal Op.maxDepth keyV
  rw [run_equalIn_struct w 9999 75 _ _ struct75 held75]
  simp [go_sem, Op.eqFields, Try.underlying75, Try.underlying9, Try.underlying2]
  by_cases h1 : a1 = b1
  · subst h1
    by_cases h2 : a2 = b2 <;> simp [h2]
  · have h3 : ¬ a1.toList = b1.toList := fun e => h1 ((toList_inj _ _).1 e)
    simp [h1, h3]

theorem run_checkKey_any (n : Nat) (e : Bool) (k : ByteArray × Int) (w : World) : (Instr.checkKey e (n + 1 + 1) 75 (keyV k)).run Try.prog w = .ok () w := by
  unfold keyV
  simp [Instr.checkKey, go_sem]

theorem run_checkKey_kv (e : Bool) (k : ByteArray × Int) (w : World) : (Instr.checkKey e 10000 75 (keyV k)).run Try.prog w = .ok () w := run_checkKey_any 9998 e k w

theorem run_findAsking (k : ByteArray × Int) (w : World) : ∀ (es : List MapEntry) (L : List ((ByteArray × Int) × (Nat × Nat))) (i : Nat), es.map (fun e => (e.key, e.val)) = L.map (fun x => (keyV x.1, refV x.2)) →
    ∃ j, (Instr.findAsking 75 (keyV k) es i).run Try.prog w = .ok ((look k L).map fun r => (j, refV r)) w
  | [], [], i, _ => ⟨0, rfl⟩
  | [], _ :: _, _, h => by simp at h
  | _ :: _, [], _, h => by simp at h
  | e :: es, x :: L, i, h => by
    simp only [List.map_cons, List.cons.injEq, Prod.mk.injEq] at h
    obtain ⟨⟨h1, h2⟩, h3⟩ := h
    have hq := run_equal_key k x.1 w
    simp only [Instr.findAsking, h1, Sem.run_bind, hq, Result.andThen_ok]
    by_cases hk : k = x.1
    · refine ⟨i, ?_⟩
      simp [look, hk, h2]
    · obtain ⟨j, hj⟩ := run_findAsking k w es L (i + 1) h3
      refine ⟨j, ?_⟩
      simp [look, hk, hj]

theorem run_findKey (k : ByteArray × Int) (w : World) (es : List MapEntry) (L : List ((ByteArray × Int) × (Nat × Nat))) (h : es.map (fun e => (e.key, e.val)) = L.map (fun x => (keyV x.1, refV x.2))) :
    ∃ j, (Instr.findKey 75 (keyV k) es).run Try.prog w = .ok ((look k L).map fun r => (j, refV r)) w := by
  cases es with
  | nil =>
    have : L = [] := by cases L with
      | nil => rfl
      | cons x L => simp at h
    subst this
    exact ⟨0, by simp [Instr.findKey, go_sem, Instr.findNow, look]⟩
  | cons e es =>
    obtain ⟨j, hj⟩ := run_findAsking k w (e :: es) L 0 h
    refine ⟨j, ?_⟩
    have hs : Instr.sameNow (.struct (Try.prog.fieldsOf 75)) (keyV k) e.key = none := by
      cases e.key <;> rfl
    have hn : Instr.findNow (.struct (Try.prog.fieldsOf 75)) (keyV k) (e :: es) 0 = none := by
      simp only [Instr.findNow, hs]
    simp only [Instr.findKey, Sem.run_bind, run_underlying struct75, Result.andThen_ok, hn]
    exact hj

theorem zero72 (w : World) : (zeroValue 72).run Try.prog w = .ok (refV (0, 0)) w := by kernel_rfl

/-- 'r, ok := w[k]'. -/
theorem run_lookup_kv {w : World} {b : Nat} {L : List ((ByteArray × Int) × (Nat × Nat))} (h : MapIs w b L) (k : ByteArray × Int) :
    (Instr.lookup 34 (.map (some b)) (keyV k) true).run Try.prog w = .ok (.tuple #[refV ((look k L).getD (0, 0)), .bool (look k L).isSome]) w := by
  obtain ⟨es, clock, hb, hL⟩ := h
  obtain ⟨j, hj⟩ := run_findKey k w es.toList L hL
  have hg : (getObj b).run Try.prog w = .ok (.map es clock) w := by simp [getObj, Sem.run, hb]
  have hc := run_checkKey_kv es.isEmpty k w
  simp only [Instr.lookup, Sem.run_bind, run_underlying Try.underlying34, Result.andThen_ok, hg, Sem.run_pure, hc, hj]
  cases look k L with
  | none => simp only [Option.map_none, Sem.run_bind, zero72, Result.andThen_ok, Sem.run_pure, if_true]; rfl
  | some r => simp

/-- 'w[k] = r' at a key that is not there: the entry is laid behind the others. -/
theorem run_update_kv {w : World} {b : Nat} {L : List ((ByteArray × Int) × (Nat × Nat))} (h : MapIs w b L) (k : ByteArray × Int) (r : Nat × Nat) (hno : look k L = none) :
    ∃ w', (Instr.mapUpdate 34 (.map (some b)) (keyV k) (refV r)).run Try.prog w = .ok () w' ∧ MapIs w' b (L ++ [(k, r)]) ∧ w.grownBy w' (some b) := by
  have hlt := h.lt
  obtain ⟨es, clock, hb, hL⟩ := h
  obtain ⟨j, hj⟩ := run_findKey k w es.toList L hL
  have hg : (getObj b).run Try.prog w = .ok (.map es clock) w := by simp [getObj, Sem.run, hb]
  have hc := run_checkKey_kv false k w
  rw [hno] at hj
  have hs : (setObj b (.map (es.push { key := keyV k, val := refV r, born := clock }) (clock + 1))).run Try.prog w = .ok () { w with heap := w.heap.setIfInBounds b (.map (es.push { key := keyV k, val := refV r, born := clock }) (clock + 1)) } := by simp [setObj, Sem.run, hb]
  refine ⟨{ w with heap := w.heap.setIfInBounds b (.map (es.push { key := keyV k, val := refV r, born := clock }) (clock + 1)) }, by simp only [Instr.mapUpdate, Sem.run_bind, run_underlying Try.underlying34, Result.andThen_ok, hg, hc, hj, Option.map_none, hs], ?_, ?_⟩
  · refine ⟨es.push { key := keyV k, val := refV r, born := clock }, clock + 1, ?_, ?_⟩
    · show (w.heap.setIfInBounds b _)[b]? = _
      rw [Array.getElem?_setIfInBounds, if_pos rfl, if_pos hlt]
    · simp [hL]
  · refine ⟨rfl, rfl, rfl, by simp, fun i _ hne => ?_⟩
    show (w.heap.setIfInBounds b _)[i]? = w.heap[i]?
    rw [Array.getElem?_setIfInBounds, if_neg (fun e => hne (by rw [e]))]

/-- 'len(w)'. -/
theorem run_len_kv {w : World} {b : Nat} {L : List ((ByteArray × Int) × (Nat × Nat))} (h : MapIs w b L) (ty : TypeId) : (Builtin.len_ #[34] ty #[.map (some b)]).run Try.prog w = .ok (.int .i64 L.length) w := by
  obtain ⟨es, clock, hb, hL⟩ := h
  have hl : es.size = L.length := by
    have := congrArg List.length hL
    simpa using this
  simp [Builtin.len_, go_sem, getObj, Sem.run, hb, hl]

theorem wpList_lookup_kv (w : World) {ops : Array Oper} {rest : List Oper} {o : Oper} {a : Act} {Q : Exit → Act → World → Prop}
    (hg : o.guard = none) (m x : Operand) (hop : o.op = Op.lookup 34 m x true) (b : Nat) (L : List ((ByteArray × Int) × (Nat × Nat))) (hm : a.eval m = .map (some b)) (h : MapIs w b L) (s : ByteArray) (n : Int) (hx : a.eval x = .agg #[.string s, .int .i64 n])
    (hK : wpList Try.prog ops Q rest (a.put o.dst (.tuple #[.agg #[.int .i64 ((look (s, n) L).getD (0, 0)).1, .int .i64 ((look (s, n) L).getD (0, 0)).2], .bool (look (s, n) L).isSome])) w) :
    wpList Try.prog ops Q (o :: rest) a w := by
  refine wpList_plain hg fun K' hK' => ?_
  have hrun := run_lookup_kv h (s, n)
  unfold keyV refV at hrun
  unfold Oper.wp
  simp only [execOp, hop, hm, hx, Sem.run_bind, hrun, Result.andThen]
  exact hK' _ _ hK

theorem wpList_update_kv (w : World) {ops : Array Oper} {rest : List Oper} {o : Oper} {a : Act} {Q : Exit → Act → World → Prop}
    (hg : o.guard = none) (m x v : Operand) (hop : o.op = Op.mapUpdate 34 m x v) (b : Nat) (L : List ((ByteArray × Int) × (Nat × Nat))) (hm : a.eval m = .map (some b)) (h : MapIs w b L) (s : ByteArray) (n : Int) (i j : Nat) (hno : look (s, n) L = none)
    (hx : a.eval x = .agg #[.string s, .int .i64 n]) (hv : a.eval v = .agg #[.int .i64 i, .int .i64 j])
    (hK : ∀ w', MapIs w' b (L ++ [((s, n), (i, j))]) → w.grownBy w' (some b) → wpList Try.prog ops Q rest (a.put o.dst undef) w') :
    wpList Try.prog ops Q (o :: rest) a w := by
  refine wpList_plain hg fun K' hK' => ?_
  obtain ⟨w', hrun, r1, r2⟩ := run_update_kv h (s, n) (i, j) hno
  unfold keyV refV at hrun
  unfold Oper.wp
  simp only [execOp, hop, hm, hx, hv, Sem.run_bind, hrun, Result.andThen]
  exact hK' _ _ (hK w' r1 r2)

end Go.Proofs.Qxb6600569a

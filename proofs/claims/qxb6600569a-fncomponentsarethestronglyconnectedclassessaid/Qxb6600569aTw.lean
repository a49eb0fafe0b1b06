/-
  THE MEMORY OF 'components': three rows of numbers, five variables in boxes, two slices that grow; what each store and append does to it. Memory alone: no program.
-/
import Derived.Test.Qxb6600569aFam
import Derived.WalkSmall
namespace Go.Proofs.Qxb6600569a
open Go.RowKit
open Tj (upd upd_same upd_other)

/-- A number as the cell of an int. -/
def N64 (v : Nat) : Value := .int .i64 v

def callCells (cs : List (Nat × Nat)) : List Value := cs.reverse.flatMap fun c => [N64 c.1, N64 c.2]
theorem callCells_cons (c : Nat × Nat) (cs : List (Nat × Nat)) : callCells (c :: cs) = callCells cs ++ [N64 c.1, N64 c.2] := by simp [callCells]
theorem callCells_len (cs : List (Nat × Nat)) : (callCells cs).length = cs.length * 2 := by
  induction cs with
  | nil => rfl
  | cons c cs ih => rw [callCells_cons, List.length_append, ih]; simp; omega

def stackCells (s : List Nat) : List Value := s.reverse.map N64
theorem stackCells_cons (x : Nat) (s : List Nat) : stackCells (x :: s) = stackCells s ++ [N64 x] := by simp [stackCells]
theorem stackCells_len (s : List Nat) : (stackCells s).length = s.length := by simp [stackCells]

/-- The state s lies in the world w, its blocks from B on; the slices 'calls' and 'stack' are the values cv, sv. -/
structure TW (w : World) (B n : Nat) (s : Tj.St) (cv sv : Value) : Prop where
  order : w.rowIs B 3 n (fun i => N64 (s.order i))
  orderBox : w.rowIs (B + 1) 59 1 (fun _ => .slice (some ⟨B, 0, none⟩) n n)
  low : w.rowIs (B + 2) 3 n (fun i => N64 (s.low i))
  lowBox : w.rowIs (B + 3) 59 1 (fun _ => .slice (some ⟨B + 2, 0, none⟩) n n)
  comp : w.rowIs (B + 4) 3 n (fun i => .int .i64 (s.comp i))
  callsBox : w.rowIs (B + 5) 85 1 (fun _ => cv)
  stackBox : w.rowIs (B + 6) 59 1 (fun _ => sv)
  visits : w.rowIs (B + 7) 3 1 (fun _ => N64 s.visits)
  calls : w.ownsRow (B + 8) 87 2 cv s.calls.length (callCells s.calls)
  stack : w.ownsRow (B + 8) 3 1 sv s.stack.length (stackCells s.stack)
  apart : ∀ k, cv.ownBlock = some k → sv.ownBlock ≠ some k

section
variable {w : World} {B n : Nat} {s : Tj.St} {cv sv : Value}

theorem TW.big (h : TW w B n s cv sv) : B + 8 ≤ w.heap.size := h.visits.lt
theorem TW.callsLow (h : TW w B n s cv sv) {b : Nat} (hb : b < B + 8) : cv.ownBlock ≠ some b := fun e => by have := (h.calls.lt b e).1; omega
theorem TW.stackLow (h : TW w B n s cv sv) {b : Nat} (hb : b < B + 8) : sv.ownBlock ≠ some b := fun e => by have := (h.stack.lt b e).1; omega

theorem TW.of_blocks (h : TW w B n s cv sv) {w' : World} (hb : ∀ g, g < w.heap.size → w'.heap[g]? = w.heap[g]?) : TW w' B n s cv sv :=
  have hbig := h.big
  ⟨h.order.of_block (hb _ (by omega)), h.orderBox.of_block (hb _ (by omega)), h.low.of_block (hb _ (by omega)), h.lowBox.of_block (hb _ (by omega)), h.comp.of_block (hb _ (by omega)),
   h.callsBox.of_block (hb _ (by omega)), h.stackBox.of_block (hb _ (by omega)), h.visits.of_block (hb _ (by omega)), ownsRow_of_block h.calls fun g hg => hb g (h.calls.lt g hg).2, ownsRow_of_block h.stack fun g hg => hb g (h.stack.lt g hg).2, h.apart⟩

theorem TW.alloc (h : TW w B n s cv sv) (o : Obj) : TW (w.alloc o) B n s cv sv := h.of_blocks fun g hg => heap_alloc_keep w o g hg
theorem TW.drew (h : TW w B n s cv sv) : TW w.drew B n s cv sv := h.of_blocks fun _ _ => rfl

theorem one_cell {a b : Value} : ∀ i, i < 1 → (if i = 0 then a else b) = a := fun i hi => if_pos (by omega)

/-- A store into one of the eight blocks leaves the other seven, and the two slices. -/
theorem TW.setOrder (h : TW w B n s cv sv) (v m : Nat) : TW (w.setCell ⟨B, v, none⟩ (N64 m)) B n { s with order := upd s.order v m } cv sv :=
  ⟨(h.order.set v _).congr (fun i _ => by simp only [upd]; split <;> rfl), h.orderBox.setOther (by simp) _, h.low.setOther (by simp) _, h.lowBox.setOther (by simp) _, h.comp.setOther (by simp) _,
   h.callsBox.setOther (by simp) _, h.stackBox.setOther (by simp) _, h.visits.setOther (by simp) _, ownsRow_setCell h.calls _ (h.callsLow (by simp)), ownsRow_setCell h.stack _ (h.stackLow (by simp)), h.apart⟩

theorem TW.setLow (h : TW w B n s cv sv) (v m : Nat) : TW (w.setCell ⟨B + 2, v, none⟩ (N64 m)) B n { s with low := upd s.low v m } cv sv :=
  ⟨h.order.setOther (by simp) _, h.orderBox.setOther (by simp) _, (h.low.set v _).congr (fun i _ => by simp only [upd]; split <;> rfl), h.lowBox.setOther (by simp) _, h.comp.setOther (by simp) _,
   h.callsBox.setOther (by simp) _, h.stackBox.setOther (by simp) _, h.visits.setOther (by simp) _, ownsRow_setCell h.calls _ (h.callsLow (by simp)), ownsRow_setCell h.stack _ (h.stackLow (by simp)), h.apart⟩

theorem TW.setComp (h : TW w B n s cv sv) (v : Nat) (m : Int) : TW (w.setCell ⟨B + 4, v, none⟩ (.int .i64 m)) B n { s with comp := upd s.comp v m } cv sv :=
  ⟨h.order.setOther (by simp) _, h.orderBox.setOther (by simp) _, h.low.setOther (by simp) _, h.lowBox.setOther (by simp) _, (h.comp.set v _).congr (fun i _ => by simp only [upd]; split <;> rfl),
   h.callsBox.setOther (by simp) _, h.stackBox.setOther (by simp) _, h.visits.setOther (by simp) _, ownsRow_setCell h.calls _ (h.callsLow (by simp)), ownsRow_setCell h.stack _ (h.stackLow (by simp)), h.apart⟩

theorem TW.setVisits (h : TW w B n s cv sv) (m : Nat) : TW (w.setCell ⟨B + 7, 0, none⟩ (N64 m)) B n { s with visits := m } cv sv :=
  ⟨h.order.setOther (by simp) _, h.orderBox.setOther (by simp) _, h.low.setOther (by simp) _, h.lowBox.setOther (by simp) _, h.comp.setOther (by simp) _,
   h.callsBox.setOther (by simp) _, h.stackBox.setOther (by simp) _, (h.visits.set 0 _).congr one_cell, ownsRow_setCell h.calls _ (h.callsLow (by simp)), ownsRow_setCell h.stack _ (h.stackLow (by simp)), h.apart⟩

/-- The slice 'calls' and its box, turned together: behind an append, a pop. -/
theorem TW.putCalls (h : TW w B n s cv sv) {w1 : World} {cv' : Value} {cs : List (Nat × Nat)} (hb : ∀ g, g < w.heap.size → cv.ownBlock ≠ some g → w1.heap[g]? = w.heap[g]?)
    (hown : w1.ownsRow (B + 8) 87 2 cv' cs.length (callCells cs)) (hap : ∀ k, cv'.ownBlock = some k → sv.ownBlock ≠ some k) : TW (w1.setCell ⟨B + 5, 0, none⟩ cv') B n { s with calls := cs } cv' sv := by
  have hbig := h.big
  have k : ∀ b, b < B + 8 → w1.heap[b]? = w.heap[b]? := fun b hlt => hb b (by omega) (h.callsLow hlt)
  have hlow : ∀ b, b < B + 8 → cv'.ownBlock ≠ some b := fun b hlt e => by have := (hown.lt b e).1; omega
  exact ⟨(h.order.of_block (k _ (by omega))).setOther (by simp) _, (h.orderBox.of_block (k _ (by omega))).setOther (by simp) _, (h.low.of_block (k _ (by omega))).setOther (by simp) _, (h.lowBox.of_block (k _ (by omega))).setOther (by simp) _,
   (h.comp.of_block (k _ (by omega))).setOther (by simp) _, ((h.callsBox.of_block (k _ (by omega))).set 0 cv').congr one_cell,
   (h.stackBox.of_block (k _ (by omega))).setOther (by simp) _, (h.visits.of_block (k _ (by omega))).setOther (by simp) _, ownsRow_setCell hown _ (hlow _ (by simp)),
   ownsRow_setCell (ownsRow_of_block h.stack fun g hg => hb g (h.stack.lt g hg).2 (fun e => h.apart g e hg)) _ (h.stackLow (by simp)), hap⟩

theorem TW.putStack (h : TW w B n s cv sv) {w1 : World} {sv' : Value} {st : List Nat} (hb : ∀ g, g < w.heap.size → sv.ownBlock ≠ some g → w1.heap[g]? = w.heap[g]?)
    (hown : w1.ownsRow (B + 8) 3 1 sv' st.length (stackCells st)) (hap : ∀ k, cv.ownBlock = some k → sv'.ownBlock ≠ some k) : TW (w1.setCell ⟨B + 6, 0, none⟩ sv') B n { s with stack := st } cv sv' := by
  have hbig := h.big
  have k : ∀ b, b < B + 8 → w1.heap[b]? = w.heap[b]? := fun b hlt => hb b (by omega) (h.stackLow hlt)
  have hlow : ∀ b, b < B + 8 → sv'.ownBlock ≠ some b := fun b hlt e => by have := (hown.lt b e).1; omega
  exact ⟨(h.order.of_block (k _ (by omega))).setOther (by simp) _, (h.orderBox.of_block (k _ (by omega))).setOther (by simp) _, (h.low.of_block (k _ (by omega))).setOther (by simp) _, (h.lowBox.of_block (k _ (by omega))).setOther (by simp) _,
   (h.comp.of_block (k _ (by omega))).setOther (by simp) _, (h.callsBox.of_block (k _ (by omega))).setOther (by simp) _, ((h.stackBox.of_block (k _ (by omega))).set 0 sv').congr one_cell,
   (h.visits.of_block (k _ (by omega))).setOther (by simp) _, ownsRow_setCell (ownsRow_of_block h.calls fun g hg => hb g (h.calls.lt g hg).2 (fun e => h.apart g hg e)) _ (h.callsLow (by simp)),
   ownsRow_setCell hown _ (hlow _ (by simp)), hap⟩

/-- 'stack = append(stack, v)', in a world W that is w but for new blocks. -/
theorem TW.pushStack (h : TW w B n s cv sv) {W w1 : World} {v g cap : Nat} (hW : ∀ k, k < w.heap.size → W.heap[k]? = w.heap[k]?) (hWs : w.heap.size ≤ W.heap.size)
    (hown : w1.ownsRow (B + 8) 3 1 (.slice (some ⟨g, 0, none⟩) (s.stack.length + 1) cap) (s.stack.length + 1) (stackCells s.stack ++ [N64 v])) (hgrow : W.grownBy w1 sv.ownBlock) (hat : sv.ownBlock = some g ∨ g = W.heap.size) :
    w1.cell? ⟨B + 6, 0, none⟩ = some sv ∧ w1.frozen? ⟨B + 6, 0, none⟩ = false ∧ TW (w1.setCell ⟨B + 6, 0, none⟩ (.slice (some ⟨g, 0, none⟩) (s.stack.length + 1) cap)) B n { s with stack := v :: s.stack } cv (.slice (some ⟨g, 0, none⟩) (s.stack.length + 1) cap) := by
  have hb : ∀ k, k < w.heap.size → sv.ownBlock ≠ some k → w1.heap[k]? = w.heap[k]? := fun k hk hne => (hgrow.block k (by omega) (fun e => hne e.symm)).trans (hW k hk)
  have hr := h.stackBox.of_block (hb (B + 6) h.stackBox.lt (h.stackLow (by omega)))
  refine ⟨hr.cell (by omega), hr.frozen 0, h.putStack hb (by rw [stackCells_cons]; exact hown) fun k hk e => ?_⟩
  simp only [Value.ownBlock, Option.some.injEq] at e
  subst e
  rcases hat with hat | hat
  · exact h.apart _ hk hat
  · have := (h.calls.lt _ hk).2; omega

/-- 'calls = append(calls, call{v, 0})'. -/
theorem TW.pushCalls (h : TW w B n s cv sv) {W w1 : World} {v k g cap : Nat} (hW : ∀ k, k < w.heap.size → W.heap[k]? = w.heap[k]?) (hWs : w.heap.size ≤ W.heap.size)
    (hown : w1.ownsRow (B + 8) 87 2 (.slice (some ⟨g, 0, none⟩) (s.calls.length + 1) cap) (s.calls.length + 1) (callCells s.calls ++ [N64 v, N64 k])) (hgrow : W.grownBy w1 cv.ownBlock) (hat : cv.ownBlock = some g ∨ g = W.heap.size) :
    w1.cell? ⟨B + 5, 0, none⟩ = some cv ∧ w1.frozen? ⟨B + 5, 0, none⟩ = false ∧ TW (w1.setCell ⟨B + 5, 0, none⟩ (.slice (some ⟨g, 0, none⟩) (s.calls.length + 1) cap)) B n { s with calls := (v, k) :: s.calls } (.slice (some ⟨g, 0, none⟩) (s.calls.length + 1) cap) sv := by
  have hb : ∀ k, k < w.heap.size → cv.ownBlock ≠ some k → w1.heap[k]? = w.heap[k]? := fun k hk hne => (hgrow.block k (by omega) (fun e => hne e.symm)).trans (hW k hk)
  have hr := h.callsBox.of_block (hb (B + 5) h.callsBox.lt (h.callsLow (by omega)))
  refine ⟨hr.cell (by omega), hr.frozen 0, h.putCalls hb (by rw [callCells_cons]; exact hown) fun k hk e => ?_⟩
  simp only [Value.ownBlock, Option.some.injEq] at hk
  subst hk
  rcases hat with hat | hat
  · exact h.apart _ hat e
  · have := (h.stack.lt _ e).2; omega

/-- The calls' top, where there is one. -/
theorem TW.callsTop (h : TW w B n s cv sv) {v k : Nat} {rest : List (Nat × Nat)} (hs : s.calls = (v, k) :: rest) : ∃ g cap, cv = .slice (some ⟨g, 0, none⟩) (rest.length + 1) cap ∧ rest.length + 1 ≤ cap ∧ cap ≤ maxLen ∧ B + 8 ≤ g ∧
    w.cell? ⟨g, rest.length * 2, none⟩ = some (N64 v) ∧ w.cell? ⟨g, rest.length * 2 + 1, none⟩ = some (N64 k) ∧ w.frozen? ⟨g, rest.length * 2 + 1, none⟩ = false := by
  have ho := h.calls
  rw [hs] at ho
  rcases ho.2 with ⟨_, e⟩ | ⟨g, cap, cur, rfl, hb, hg, hle, hm, _⟩
  · simp at e
  · have hl := callCells_len rest
    have c1 := ho.cellAt (rest.length * 2) (by simp only [List.length_cons]; omega)
    have c2 := ho.cellAt (rest.length * 2 + 1) (by simp only [List.length_cons]; omega)
    rw [callCells_cons, List.getElem?_append_right (by omega)] at c1 c2
    refine ⟨g, cap, rfl, hle, hm, hb, ?_, ?_, ho.frozenAt _⟩
    · rw [c1]; simp [hl]
    · rw [c2]; simp [hl]

/-- .. its index raised. -/
theorem TW.bump (h : TW w B n s cv sv) {v k g cap : Nat} {rest : List (Nat × Nat)} (hs : s.calls = (v, k) :: rest) (hcv : cv = .slice (some ⟨g, 0, none⟩) (rest.length + 1) cap) :
    TW (w.setCell ⟨g, rest.length * 2 + 1, none⟩ (N64 (k + 1))) B n { s with calls := (v, k + 1) :: rest } cv sv := by
  have hbig := h.big
  have ho := h.calls
  rw [hs] at ho
  subst hcv
  have hst := ho.stored (rest.length * 2 + 1) (N64 (k + 1))
  have hg : B + 8 ≤ g := (ho.lt g rfl).1
  have kk : ∀ b, b < B + 8 → (w.setCell ⟨g, rest.length * 2 + 1, none⟩ (N64 (k + 1))).heap[b]? = w.heap[b]? := fun b hlt => Below.heap_setCell _ _ _ _ (by simp; omega)
  have hl := callCells_len rest
  have e : (callCells ((v, k) :: rest)).set (rest.length * 2 + 1) (N64 (k + 1)) = callCells ((v, k + 1) :: rest) := by
    rw [callCells_cons, callCells_cons, List.set_append_right _ _ (by omega), hl]
    have : rest.length * 2 + 1 - rest.length * 2 = 1 := by omega
    rw [this]; rfl
  rw [e] at hst
  exact ⟨h.order.of_block (kk _ (by omega)), h.orderBox.of_block (kk _ (by omega)), h.low.of_block (kk _ (by omega)), h.lowBox.of_block (kk _ (by omega)), h.comp.of_block (kk _ (by omega)), h.callsBox.of_block (kk _ (by omega)),
   h.stackBox.of_block (kk _ (by omega)), h.visits.of_block (kk _ (by omega)), hst.1, ownsRow_setCell h.stack _ (h.apart g rfl), h.apart⟩

/-- 'calls = calls[:len(calls)-1]'. -/
theorem TW.popCalls (h : TW w B n s cv sv) {v k g cap : Nat} {rest : List (Nat × Nat)} (hs : s.calls = (v, k) :: rest) (hcv : cv = .slice (some ⟨g, 0, none⟩) (rest.length + 1) cap) :
    TW (w.setCell ⟨B + 5, 0, none⟩ (.slice (some ⟨g, 0, none⟩) rest.length cap)) B n { s with calls := rest } (.slice (some ⟨g, 0, none⟩) rest.length cap) sv := by
  have ho := h.calls
  rw [hs, callCells_cons, hcv] at ho
  exact h.putCalls (fun _ _ _ => rfl) (ownsRow_pop (callCells_len rest) ho) (fun k hk => h.apart k (by rw [hcv]; exact hk))

/-- The stack's top, where there is one. -/
theorem TW.stackTop (h : TW w B n s cv sv) {x : Nat} {rest : List Nat} (hs : s.stack = x :: rest) : ∃ g cap, sv = .slice (some ⟨g, 0, none⟩) (rest.length + 1) cap ∧ rest.length + 1 ≤ cap ∧ cap ≤ maxLen ∧ w.cell? ⟨g, rest.length, none⟩ = some (N64 x) := by
  have ho := h.stack
  rw [hs] at ho
  rcases ho.2 with ⟨_, e⟩ | ⟨g, cap, cur, rfl, hb, hg, hle, hm, _⟩
  · simp at e
  · have hl := stackCells_len rest
    have c1 := ho.cellAt rest.length (by simp)
    rw [stackCells_cons, List.getElem?_append_right (by omega)] at c1
    refine ⟨g, cap, rfl, hle, hm, ?_⟩
    rw [c1]; simp [hl]

theorem TW.popStack (h : TW w B n s cv sv) {x g cap : Nat} {rest : List Nat} (hs : s.stack = x :: rest) (hsv : sv = .slice (some ⟨g, 0, none⟩) (rest.length + 1) cap) :
    TW (w.setCell ⟨B + 6, 0, none⟩ (.slice (some ⟨g, 0, none⟩) rest.length cap)) B n { s with stack := rest } cv (.slice (some ⟨g, 0, none⟩) rest.length cap) := by
  have ho := h.stack
  rw [hs, stackCells_cons, hsv] at ho
  exact h.putStack (fun _ _ _ => rfl) (ownsRow_pop (by rw [stackCells_len]; omega) ho) (fun k hk => by have := h.apart k hk; rw [hsv] at this; exact this)
end
end Go.Proofs.Qxb6600569a

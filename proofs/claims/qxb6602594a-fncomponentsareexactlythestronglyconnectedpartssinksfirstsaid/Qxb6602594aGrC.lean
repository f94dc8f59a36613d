import Derived.Test.Qxb6602594aGrB
import Derived.Test.Qxb6602594aTjNum
namespace Go.Proofs.Qxb6602594a
open Go.RowKit
set_option linter.unusedSimpArgs false
set_option linter.unusedVariables false

abbrev iv (x : Nat) : Value := .int .i32 x
def flatF (l : List (Nat × Nat)) : List Value := l.flatMap (fun f => [iv f.1, iv f.2])
theorem flatF_length (l : List (Nat × Nat)) : (flatF l).length = l.length * 2 := by
  induction l with
  | nil => rfl
  | cons a l ih => simp [flatF] at ih ⊢; omega
theorem flatF_append (a b : List (Nat × Nat)) : flatF (a ++ b) = flatF a ++ flatF b := by simp [flatF]

theorem flatF_rev (x e : Nat) (fs : List (Nat × Nat)) : flatF ((x, e) :: fs).reverse = flatF fs.reverse ++ [iv x, iv e] := by simp [flatF]
theorem flatF_len_rev (fs : List (Nat × Nat)) : (flatF fs.reverse).length = fs.length * 2 := by rw [flatF_length, List.length_reverse]

/-- The world w holds the state of the search: comp, index, low, onStack at the four blocks laid first; the stack and the frames in rows of the call's own. -/
structure Rep (W w : World) (n : Nat) (comp index low : Nat → Nat) (on : Nat → Bool) (stack : List Nat) (vs : Value) (frames : List (Nat × Nat)) (vf : Value) : Prop where
  below : Below W.heap.size W w
  size : W.heap.size + 4 ≤ w.heap.size
  comp : w.rowIs W.heap.size 21 n (fun i => iv (comp i))
  index : w.rowIs (W.heap.size + 1) 21 n (fun i => iv (index i))
  low : w.rowIs (W.heap.size + 1 + 1) 21 n (fun i => iv (low i))
  on : w.rowIs (W.heap.size + 1 + 1 + 1) 4 n (fun i => .bool (on i))
  stk : w.ownsRow (W.heap.size + 4) 21 1 vs stack.length (stack.reverse.map iv)
  frm : w.ownsRow (W.heap.size + 4) 103 2 vf frames.length (flatF frames.reverse)

section
variable {W w : World} {n : Nat} {comp index low : Nat → Nat} {on : Nat → Bool} {stack : List Nat} {vs : Value} {frames : List (Nat × Nat)} {vf : Value}

/-- Behind new blocks, and writes to one row of the call's own (grownBy), all but that row is as it was. -/
theorem Rep.grown {w' : World} {row : Option Nat} (h : Rep W w n comp index low on stack vs frames vf) (hg : w.grownBy w' row) (hr : ∀ k, row = some k → W.heap.size + 4 ≤ k) {stack' : List Nat} {vs' : Value} {frames' : List (Nat × Nat)} {vf' : Value}
    (h1 : w'.ownsRow (W.heap.size + 4) 21 1 vs' stack'.length (stack'.reverse.map iv)) (h2 : w'.ownsRow (W.heap.size + 4) 103 2 vf' frames'.length (flatF frames'.reverse)) :
    Rep W w' n comp index low on stack' vs' frames' vf' := by
  have keep : ∀ b, b < W.heap.size + 4 → w'.heap[b]? = w.heap[b]? := fun b hb => hg.block b (Nat.lt_of_lt_of_le hb h.size) (fun e => by have := hr b e.symm; omega)
  exact ⟨h.below.grown hg (by have := h.size; omega) (fun k e => by have := hr k e; omega), Nat.le_trans h.size hg.size, h.comp.of_block (keep _ (by omega)), h.index.of_block (keep _ (by omega)), h.low.of_block (keep _ (by omega)), h.on.of_block (keep _ (by omega)), h1, h2⟩

theorem ownBlock_lt {w : World} {base : Nat} {e : TypeId} {size : Nat} {v : Value} {n : Nat} {xs : List Value} (h : w.ownsRow base e size v n xs) : ∀ k, v.ownBlock = some k → base ≤ k := fun k hk => (h.lt k hk).1

/-- The stack's row is not the frames' row: their cells are of two types. -/
theorem Rep.apart (h : Rep W w n comp index low on stack vs frames vf) : vs.ownBlock = none ∨ vs.ownBlock ≠ vf.ownBlock := by
  rcases h.stk.2 with ⟨h1, _⟩ | ⟨g, cap, cur, h1, _, h3, _⟩
  · left; rw [h1]; rfl
  · right
    rcases h.frm.2 with ⟨h4, _⟩ | ⟨g', cap', cur', h4, _, h6, _⟩
    · rw [h1, h4]; simp [Value.ownBlock]
    · rw [h1, h4]
      simp only [Value.ownBlock, ne_eq, Option.some.injEq]
      intro e
      rw [e, h6] at h3
      simp at h3
theorem Rep.apart' (h : Rep W w n comp index low on stack vs frames vf) : vf.ownBlock = none ∨ vf.ownBlock ≠ vs.ownBlock := by
  rcases h.apart with h1 | h1
  · rcases hv : vf.ownBlock with _ | g
    · exact .inl rfl
    · right; rw [h1]; simp
  · exact .inr h1.symm

theorem Rep.alloc (h : Rep W w n comp index low on stack vs frames vf) (o : Obj) : Rep W (w.alloc o) n comp index low on stack vs frames vf :=
  h.grown (World.grownBy_alloc w o none) (by simp) (h.stk.alloc o) (h.frm.alloc o)
theorem Rep.drew (h : Rep W w n comp index low on stack vs frames vf) : Rep W w.drew n comp index low on stack vs frames vf :=
  ⟨h.below.drew, h.size, h.comp, h.index, h.low, h.on, h.stk, h.frm⟩
theorem Rep.drewN (h : Rep W w n comp index low on stack vs frames vf) (k : Nat) : Rep W (w.drewN k) n comp index low on stack vs frames vf :=
  ⟨below_drewN h.below k, h.size, h.comp, h.index, h.low, h.on, h.stk, h.frm⟩

theorem Rep.setComp (h : Rep W w n comp index low on stack vs frames vf) (x v : Nat) : Rep W (w.setCell ⟨W.heap.size, x, none⟩ (iv v)) n (Tj.upd comp x v) index low on stack vs frames vf := by
  refine ⟨h.below.setCell (by simp <;> omega) _, by simpa using h.size, (h.comp.set x _).congr (fun j _ => ?_), h.index.setOther (by simp <;> omega) _, h.low.setOther (by simp <;> omega) _, h.on.setOther (by simp <;> omega) _, ownsRow_setCell_below h.stk (by simp <;> omega) _, ownsRow_setCell_below h.frm (by simp <;> omega) _⟩
  unfold Tj.upd; split <;> rfl
theorem Rep.setIndex (h : Rep W w n comp index low on stack vs frames vf) (x v : Nat) : Rep W (w.setCell ⟨W.heap.size + 1, x, none⟩ (iv v)) n comp (Tj.upd index x v) low on stack vs frames vf := by
  refine ⟨h.below.setCell (by simp <;> omega) _, by simpa using h.size, h.comp.setOther (by simp <;> omega) _, (h.index.set x _).congr (fun j _ => ?_), h.low.setOther (by simp <;> omega) _, h.on.setOther (by simp <;> omega) _, ownsRow_setCell_below h.stk (by simp <;> omega) _, ownsRow_setCell_below h.frm (by simp <;> omega) _⟩
  unfold Tj.upd; split <;> rfl
theorem Rep.setLow (h : Rep W w n comp index low on stack vs frames vf) (x v : Nat) : Rep W (w.setCell ⟨W.heap.size + 1 + 1, x, none⟩ (iv v)) n comp index (Tj.upd low x v) on stack vs frames vf := by
  refine ⟨h.below.setCell (by simp <;> omega) _, by simpa using h.size, h.comp.setOther (by simp <;> omega) _, h.index.setOther (by simp <;> omega) _, (h.low.set x _).congr (fun j _ => ?_), h.on.setOther (by simp <;> omega) _, ownsRow_setCell_below h.stk (by simp <;> omega) _, ownsRow_setCell_below h.frm (by simp <;> omega) _⟩
  unfold Tj.upd; split <;> rfl
theorem Rep.setOn (h : Rep W w n comp index low on stack vs frames vf) (x : Nat) (v : Bool) : Rep W (w.setCell ⟨W.heap.size + 1 + 1 + 1, x, none⟩ (.bool v)) n comp index low (Tj.upd on x v) stack vs frames vf := by
  refine ⟨h.below.setCell (by simp <;> omega) _, by simpa using h.size, h.comp.setOther (by simp <;> omega) _, h.index.setOther (by simp <;> omega) _, h.low.setOther (by simp <;> omega) _, (h.on.set x _).congr (fun j _ => ?_), ownsRow_setCell_below h.stk (by simp <;> omega) _, ownsRow_setCell_below h.frm (by simp <;> omega) _⟩
  unfold Tj.upd; split <;> rfl

/-- Behind 'stack = append(stack, y)'. -/
theorem Rep.pushStack {w' : World} {v' : Value} {y : Nat} (h : Rep W w n comp index low on stack vs frames vf) (h1 : w'.ownsRow (W.heap.size + 4) 21 1 v' (stack.length + 1) (stack.reverse.map iv ++ [iv y])) (hg : w.grownBy w' vs.ownBlock) :
    Rep W w' n comp index low on (y :: stack) v' frames vf := by
  refine h.grown hg (ownBlock_lt h.stk) ?_ (h.frm.kept hg h.apart')
  simpa using h1

/-- Behind 'frames = append(frames, frame{x: y})'. -/
theorem Rep.pushFrame {w' : World} {v' : Value} {y e : Nat} (h : Rep W w n comp index low on stack vs frames vf) (h1 : w'.ownsRow (W.heap.size + 4) 103 2 v' (frames.length + 1) (flatF frames.reverse ++ [iv y, iv e])) (hg : w.grownBy w' vf.ownBlock) :
    Rep W w' n comp index low on stack vs ((y, e) :: frames) v' := by
  refine h.grown hg (ownBlock_lt h.frm) (h.stk.kept hg h.apart) ?_
  simpa [flatF] using h1

/-- The frames of a new root. -/
theorem Rep.newFrames (h : Rep W w n comp index low on stack vs frames vf) (x : Nat) : Rep W (w.alloc (.cells #[iv x, iv 0] 103)) n comp index low on stack vs [(x, 0)] (.slice (some ⟨w.heap.size, 0, none⟩) 1 1) := by
  refine h.grown (World.grownBy_alloc w _ none) (by simp) (h.stk.alloc _) ?_
  have := World.ownsRow_lit (base := W.heap.size + 4) (e := 103) (size := 2) w #[iv x, iv 0] 1 h.size (by unfold maxLen; omega) (by simp)
  simpa [flatF] using this

theorem Rep.noFrames (h : Rep W w n comp index low on stack vs frames vf) : Rep W w n comp index low on stack vs [] (.slice none 0 0) :=
  ⟨h.below, h.size, h.comp, h.index, h.low, h.on, h.stk, World.ownsRow_nil _ _ _ _⟩

/-- The slice of frames, one at least: where it lies. -/
theorem Rep.topFrame {x e : Nat} {fs : List (Nat × Nat)} (h : Rep W w n comp index low on stack vs ((x, e) :: fs) vf) :
    ∃ g cap, vf = .slice (some ⟨g, 0, none⟩) (fs.length + 1) cap ∧ W.heap.size + 4 ≤ g ∧ w.cell? ⟨g, fs.length * 2, none⟩ = some (iv x) ∧ w.cell? ⟨g, fs.length * 2 + 1, none⟩ = some (iv e) ∧ (∀ j, w.frozen? ⟨g, j, none⟩ = false) ∧ fs.length + 1 ≤ cap := by
  have hf := h.frm
  rcases hf.2 with ⟨_, h0⟩ | ⟨g, cap, cur, hv, hg, _, hn, _⟩
  · simp at h0
  · simp only [List.length_cons] at hv hn
    refine ⟨g, cap, hv, hg, ?_, ?_, ?_, hn⟩
    · rw [hv] at hf
      have hc := hf.cellAt (fs.length * 2) (by omega)
      rw [hc, flatF_rev, List.getElem?_append_right (by rw [flatF_len_rev]; omega), flatF_len_rev, Nat.sub_self]
      rfl
    · rw [hv] at hf
      have hc := hf.cellAt (fs.length * 2 + 1) (by omega)
      rw [hc, flatF_rev, List.getElem?_append_right (by rw [flatF_len_rev]; omega), flatF_len_rev, show fs.length * 2 + 1 - fs.length * 2 = 1 by omega]
      rfl
    · intro j
      rw [hv] at hf
      exact hf.frozenAt j

/-- 'f.edge++' at the top. -/
theorem Rep.setEdge {x e : Nat} {fs : List (Nat × Nat)} {g cap : Nat} (h : Rep W w n comp index low on stack vs ((x, e) :: fs) (.slice (some ⟨g, 0, none⟩) (fs.length + 1) cap)) (e' : Nat) :
    Rep W (w.setCell ⟨g, fs.length * 2 + 1, none⟩ (iv e')) n comp index low on stack vs ((x, e') :: fs) (.slice (some ⟨g, 0, none⟩) (fs.length + 1) cap) := by
  have hf : w.ownsRow (W.heap.size + 4) 103 2 (.slice (some ⟨g, 0, none⟩) (fs.length + 1) cap) (fs.length + 1) (flatF ((x, e) :: fs).reverse) := h.frm
  obtain ⟨h1, h2⟩ := hf.stored (fs.length * 2 + 1) (iv e')
  have hg : W.heap.size + 4 ≤ g := ownBlock_lt h.frm g rfl
  refine h.grown h2 (by intro k hk; simp at hk; omega) (h.stk.kept h2 h.apart) ?_
  have e1 : (flatF ((x, e) :: fs).reverse).set (fs.length * 2 + 1) (iv e') = flatF ((x, e') :: fs).reverse := by
    rw [flatF_rev, flatF_rev, List.set_append_right _ _ (by rw [flatF_len_rev]; omega), flatF_len_rev, show fs.length * 2 + 1 - fs.length * 2 = 1 by omega]
    rfl
  rw [e1] at h1
  exact h1

/-- 'frames = frames[:len(frames)-1]'. -/
theorem Rep.popFrame {x e : Nat} {fs : List (Nat × Nat)} {g cap : Nat} (h : Rep W w n comp index low on stack vs ((x, e) :: fs) (.slice (some ⟨g, 0, none⟩) (fs.length + 1) cap)) :
    Rep W w n comp index low on stack vs fs (.slice (some ⟨g, 0, none⟩) fs.length cap) := by
  have hf : w.ownsRow (W.heap.size + 4) 103 2 (.slice (some ⟨g, 0, none⟩) (fs.length + 1) cap) (fs.length + 1) (flatF fs.reverse ++ [iv x, iv e]) := by
    have := h.frm
    rw [flatF_rev] at this
    exact this
  exact ⟨h.below, h.size, h.comp, h.index, h.low, h.on, h.stk, ownsRow_pop (flatF_len_rev fs) hf⟩

/-- The stack, one at least. -/
theorem Rep.topStack {y : Nat} {st : List Nat} (h : Rep W w n comp index low on (y :: st) vs frames vf) :
    ∃ g cap, vs = .slice (some ⟨g, 0, none⟩) (st.length + 1) cap ∧ W.heap.size + 4 ≤ g ∧ w.cell? ⟨g, st.length, none⟩ = some (iv y) ∧ st.length + 1 ≤ cap := by
  have hf := h.stk
  rcases hf.2 with ⟨_, h0⟩ | ⟨g, cap, cur, hv, hg, _, hn, _⟩
  · simp at h0
  · simp only [List.length_cons] at hv hn
    refine ⟨g, cap, hv, hg, ?_, hn⟩
    rw [hv] at hf
    have hc := hf.cellAt st.length (by omega)
    rw [hc]
    simp [List.getElem?_append]

/-- 'stack = stack[:len(stack)-1]'. -/
theorem Rep.popStack {y : Nat} {st : List Nat} {g cap : Nat} (h : Rep W w n comp index low on (y :: st) (.slice (some ⟨g, 0, none⟩) (st.length + 1) cap) frames vf) :
    Rep W w n comp index low on st (.slice (some ⟨g, 0, none⟩) st.length cap) frames vf := by
  have hf : w.ownsRow (W.heap.size + 4) 21 1 (.slice (some ⟨g, 0, none⟩) (st.length + 1) cap) (st.length + 1) (st.reverse.map iv ++ [iv y]) := by
    have := h.stk
    simpa using this
  exact ⟨h.below, h.size, h.comp, h.index, h.low, h.on, ownsRow_pop (by simp) hf, h.frm⟩

end
end Go.Proofs.Qxb6602594a

import Derived.Test.Qxb6602594aTjInv3
namespace Go.Proofs.Qxb6602594a.Tj
set_option linter.unusedVariables false
set_option linter.unusedSimpArgs false

/-- Where no edge counts: between two roots; at a root. -/
def Lone (S : St) : Prop :=
  (S.frames = [] ∧ (∀ v, S.index v ≠ 0 ↔ v < S.comps) ∧ ∀ v, v < S.comps → S.comp v = v) ∨
  (∃ r e, S.frames = [(r, e)] ∧ S.stack.head? = some r ∧ S.comps = r ∧ (∀ v, S.index v ≠ 0 ↔ v ≤ r) ∧ S.low r = S.index r ∧ ∀ v, v < r → S.comp v = v)

theorem Lone.step {n : Nat} {G : Nat → List (Option Nat)} (hG : ∀ x y, ¬ Ed G x y) {S S' : St} (h : Lone S) (hs : Step n G S S') : Lone S' := by
  rcases hs with ⟨x, hx, hf, hi, hz, rfl⟩ | ⟨x, e, fs, hf, ⟨he, rfl⟩ | ⟨he, rfl⟩⟩
  · rcases h with ⟨h1, h2, h3⟩ | ⟨r, e, h1, _⟩
    · have hxc : x = S.comps := by
        have a1 : ¬ x < S.comps := fun hh => (h2 x).2 hh hi
        have a2 : ¬ S.comps < x := fun hh => by
          have := (h2 S.comps).1 (hz S.comps hh)
          omega
        omega
      refine .inr ⟨x, 0, by simp [push, h1], by simp [push], by simp [push, hxc], fun v => ?_, by simp [push, upd], fun v hv => ?_⟩
      · show upd S.index x (S.next + 1) v ≠ 0 ↔ v ≤ x
        unfold upd
        by_cases e1 : v = x
        · simp [e1]
        · rw [if_neg e1, h2 v]; omega
      · exact h3 v (by omega)
    · rw [h1] at hf; cases hf
  · rcases h with ⟨h1, _⟩ | ⟨r, e', h1, h2, h3, h4, h5, h6⟩
    · rw [h1] at hf; cases hf
    · rw [h1] at hf
      simp only [List.cons.injEq, Prod.mk.injEq] at hf
      obtain ⟨⟨rfl, rfl⟩, rfl⟩ := hf
      have hnone : (G r)[e']?.getD none = none := by
        rw [List.getElem?_eq_getElem he]
        simp only [Option.getD_some]
        cases hz : (G r)[e'] with
        | none => rfl
        | some y => exact absurd (by unfold Ed; rw [← hz]; exact List.getElem_mem he) (hG r y)
      unfold edge
      rw [hnone]
      exact .inr ⟨r, e' + 1, rfl, h2, h3, h4, h5, h6⟩
  · rcases h with ⟨h1, _⟩ | ⟨r, e', h1, h2, h3, h4, h5, h6⟩
    · rw [h1] at hf; cases hf
    · rw [h1] at hf
      simp only [List.cons.injEq, Prod.mk.injEq] at hf
      obtain ⟨⟨rfl, rfl⟩, rfl⟩ := hf
      unfold popf
      rw [if_pos h5]
      have hup : upTo r S.stack = [r] := by
        cases hst : S.stack with
        | nil => rw [hst] at h2; simp at h2
        | cons a l =>
          rw [hst] at h2
          simp at h2
          subst h2
          simp [upTo]
      refine .inl ⟨rfl, fun v => ?_, fun v hv => ?_⟩
      · show S.index v ≠ 0 ↔ v < S.comps + 1
        rw [h4 v, h3]; omega
      · show setAll S.comp (upTo r S.stack) S.comps v = v
        have hv' : v < S.comps + 1 := hv
        rw [hup]
        unfold setAll
        by_cases e1 : v = r
        · simp [e1, h3]
        · rw [if_neg (by simpa using e1)]
          exact h6 v (by omega)

theorem Rc.lone {n : Nat} {G : Nat → List (Option Nat)} (hG : ∀ x y, ¬ Ed G x y) {S : St} (h : Rc n G S) : Lone S :=
  h Lone (.inl ⟨rfl, by simp [s0], by simp [s0]⟩) (fun S S' hi hs => hi.step hG hs)

theorem Lone.fin {n : Nat} {S : St} (h : Lone S) (hf : S.frames = []) (hall : ∀ v, v < n → S.index v ≠ 0) (v : Nat) (hv : v < n) : S.comp v = v := by
  rcases h with ⟨_, h2, h3⟩ | ⟨r, e, h1, _⟩
  · exact h3 v ((h2 v).1 (hall v hv))
  · rw [h1] at hf; cases hf

end Go.Proofs.Qxb6602594a.Tj

import Derived.Test.Qxb6602594aGrFx
import Derived.Deep.CutRange
import Derived.BigRegion
import Derived.BigQuiet
namespace Go.Proofs.Qxb6602594a
open Go.RowKit
set_option linter.unusedSimpArgs false
set_option linter.unusedVariables false


theorem setAll_nil {α : Type} (f : Nat → α) (v : α) : Tj.setAll f [] v = f := by funext j; simp [Tj.setAll]
theorem upd_setAll {α : Type} (f : Nat → α) (d : List Nat) (y : Nat) (v : α) : Tj.upd (Tj.setAll f d v) y v = Tj.setAll f (d ++ [y]) v := by
  funext j
  simp only [Tj.upd, Tj.setAll, List.mem_append, List.mem_singleton]
  by_cases h : j = y
  · simp [h]
  · simp [h]
theorem upTo_at (x : Nat) (r : List Nat) : ∀ d : List Nat, x ∉ d → Tj.upTo x (d ++ x :: r) = d ++ [x] ∧ Tj.behind x (d ++ x :: r) = r
  | [], _ => by simp [Tj.upTo, Tj.behind]
  | a :: d, h => by
    have ha : a ≠ x := fun e => h (by simp [e])
    obtain ⟨h1, h2⟩ := upTo_at x r d (fun hm => h (List.mem_cons_of_mem _ hm))
    simp only [Tj.upTo, Tj.behind] at h1 h2 ⊢
    simp [ha, h1, h2]
end Go.Proofs.Qxb6602594a

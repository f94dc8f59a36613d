import Derived.Test.Qxb6002391aA
import Derived.WalkKit
import Derived.ProofKit
import Derived.OpenShut
namespace Go.Proofs.Qxb6002391a
open Go.ChangeShapes Go.WideShapes Go.ChangeAt Go.RowKit
set_option linter.unusedVariables false
set_option linter.unusedSimpArgs false

theorem Try.c9 : Try.prog.cellsOf 9 = 1 := by kernel_rfl
theorem Try.c4 : Try.prog.cellsOf 4 = 1 := by kernel_rfl
theorem Try.c21 : Try.prog.cellsOf 21 = 1 := by kernel_rfl
theorem Try.c3 : Try.prog.cellsOf 3 = 1 := by kernel_rfl
theorem Try.c23 : Try.prog.cellsOf 23 = 11 := by kernel_rfl

/-- A LawProps that came in, written out. -/
theorem isZ_of {H : Type} {enc : TypeId × Value → H} {W : World} {r : Reach} {b0 : Nat} {v : Value} {d : DataW H} {ps : List MemPlace}
    (hv : Value.okWide Try.prog W r b0 23 v) (h : DataW.Trod enc Try.prog W 0 (fun _ => true) true 23 v d ps) :
    ∃ (s : ByteArray) (hp : Bool) (p : ByteArray) (px : Int) (an : ByteArray) (ht ha : Bool) (ta aa : Int) (hn : Bool) (no : Int),
      v = zv s hp p px an ht ha ta aa hn no ∧ s.size ≤ maxLen ∧ p.size ≤ maxLen ∧ an.size ≤ maxLen := by
  obtain ⟨cs, rfl, hsz⟩ := okWide_struct Try.underlying23 hv
  rw [Try.c23] at hsz
  obtain ⟨c0, c1, c2, c3, c4, c5, c6, c7, c8, c9, c10, rfl⟩ : ∃ c0 c1 c2 c3 c4 c5 c6 c7 c8 c9 c10, cs = #[c0, c1, c2, c3, c4, c5, c6, c7, c8, c9, c10] := by
    obtain ⟨l⟩ := cs
    match l, hsz with
    | [c0, c1, c2, c3, c4, c5, c6, c7, c8, c9, c10], _ => exact ⟨c0, c1, c2, c3, c4, c5, c6, c7, c8, c9, c10, rfl⟩
  obtain ⟨fuel, hf⟩ := h
  obtain ⟨xs, n, _, _, hl, hlen, hx⟩ := DataW.trod_struct Try.underlying23 hf
  match xs, hlen with
  | [y0, y1, y2, y3, y4, y5, y6, y7, y8, y9, y10], _ =>
    have g0 := hx 0 _ rfl
    simp [Value.cells, Try.c9] at g0
    obtain ⟨s, e0, _, m0⟩ := DataW.trod_string Try.underlying9 g0
    simp at e0
    subst e0
    have g1 := hx 1 _ rfl
    simp [Value.cells, Try.c4] at g1
    obtain ⟨hp, e1, _⟩ := DataW.trod_bool Try.underlying4 g1
    simp at e1
    subst e1
    have g2 := hx 2 _ rfl
    simp [Value.cells, Try.c9] at g2
    obtain ⟨p, e2, _, m2⟩ := DataW.trod_string Try.underlying9 g2
    simp at e2
    subst e2
    have g3 := hx 3 _ rfl
    simp [Value.cells, Try.c21] at g3
    obtain ⟨px, e3, _, _⟩ := DataW.trod_int Try.underlying21 g3
    simp at e3
    subst e3
    have g4 := hx 4 _ rfl
    simp [Value.cells, Try.c9] at g4
    obtain ⟨an, e4, _, m4⟩ := DataW.trod_string Try.underlying9 g4
    simp at e4
    subst e4
    have g5 := hx 5 _ rfl
    simp [Value.cells, Try.c4] at g5
    obtain ⟨ht, e5, _⟩ := DataW.trod_bool Try.underlying4 g5
    simp at e5
    subst e5
    have g6 := hx 6 _ rfl
    simp [Value.cells, Try.c4] at g6
    obtain ⟨ha, e6, _⟩ := DataW.trod_bool Try.underlying4 g6
    simp at e6
    subst e6
    have g7 := hx 7 _ rfl
    simp [Value.cells, Try.c3] at g7
    obtain ⟨ta, e7, _, _⟩ := DataW.trod_int Try.underlying3 g7
    simp at e7
    subst e7
    have g8 := hx 8 _ rfl
    simp [Value.cells, Try.c3] at g8
    obtain ⟨aa, e8, _, _⟩ := DataW.trod_int Try.underlying3 g8
    simp at e8
    subst e8
    have g9 := hx 9 _ rfl
    simp [Value.cells, Try.c4] at g9
    obtain ⟨hn, e9, _⟩ := DataW.trod_bool Try.underlying4 g9
    simp at e9
    subst e9
    have g10 := hx 10 _ rfl
    simp [Value.cells, Try.c3] at g10
    obtain ⟨no, e10, _, _⟩ := DataW.trod_int Try.underlying3 g10
    simp at e10
    subst e10
    exact ⟨s, hp, p, px, an, ht, ha, ta, aa, hn, no, rfl, m0, m2, m4⟩
end Go.Proofs.Qxb6002391a

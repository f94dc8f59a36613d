import Derived.Test.Qxb6002391aRows
import Derived.WalkKit
import Derived.WalkLawsBesides
import Derived.WalkSpells
import Derived.Below
import Derived.Outline
import Derived.Deep.Cut
namespace Go.Proofs.Qxb6002391a
open Go.RowKit
set_option linter.unusedSimpArgs false
set_option linter.unusedVariables false

/-- The value of a LawProps or a ZZProps. -/
abbrev zv (s : ByteArray) (hp : Bool) (p : ByteArray) (px : Int) (an : ByteArray) (ht ha : Bool) (ta aa : Int) (hn : Bool) (no : Int) : Value :=
  .agg #[.string s, .bool hp, .string p, .int .i32 px, .string an, .bool ht, .bool ha, .int .i64 ta, .int .i64 aa, .bool hn, .int .i64 no]

/-- The value of a props. -/
abbrev pv (pp : Option Addr) (s : ByteArray) (px : Int) (an : ByteArray) (ht ha : Bool) (ta aa : Int) (nd : Option Addr) : Value :=
  .agg #[.pointer pp, .string s, .int .i32 px, .string an, .bool ht, .bool ha, .int .i64 ta, .int .i64 aa, .pointer nd]

structure PreIs (w : World) (pp : Option Addr) (h : Bool) (s : ByteArray) : Prop where
  yes : h = true → ∃ b, pp = some ⟨b, 0, none⟩ ∧ w.cell? ⟨b, 0, none⟩ = some (.string s)
  no : h = false → pp = none

structure NodeIs (w : World) (nd : Option Addr) (h : Bool) (o : Int) : Prop where
  yes : h = true → ∃ b, nd = some ⟨b, 0, none⟩ ∧ w.cell? ⟨b, 9, none⟩ = some (.int .i64 o)
  no : h = false → nd = none

theorem PreIs.later {w w' : World} {pp : Option Addr} {h : Bool} {s : ByteArray} (q : PreIs w pp h s) (hb : Below w.heap.size w w') : PreIs w' pp h s := by
  refine ⟨fun hh => ?_, q.no⟩
  obtain ⟨b, e, hc⟩ := q.yes hh
  exact ⟨b, e, (hb.cell (World.block_lt_of_cell? w _ hc)).trans hc⟩

theorem NodeIs.later {w w' : World} {nd : Option Addr} {h : Bool} {o : Int} (q : NodeIs w nd h o) (hb : Below w.heap.size w w') : NodeIs w' nd h o := by
  refine ⟨fun hh => ?_, q.no⟩
  obtain ⟨b, e, hc⟩ := q.yes hh
  exact ⟨b, e, (hb.cell (p := ⟨b, 9, none⟩) (World.block_lt_of_cell? w _ hc)).trans hc⟩

set_option maxHeartbeats 400000 in
theorem bytes_calls (s : ByteArray) (hp : Bool) (p : ByteArray) (px : Int) (an : ByteArray) (ht ha : Bool) (ta aa : Int) (hn : Bool) (no : Int) (w : World) (h1 : s.size ≤ 1048576) (h2 : p.size ≤ 1048576) (h3 : an.size ≤ 1048576) :
    Calls Try.prog 7 #[zv s hp p px an ht ha ta aa hn no] w fun e w' => e = .returned (.int .i64 ((s.size : Int) + (p.size : Int) + (an.size : Int))) ∧ Below w.heap.size w w' := by
  go_enter Try.func7, Try.ntmps7
  go_wp2
  go_ret
  exact ⟨rfl, (Below.refl _ _).alloc (Nat.le_refl _) _⟩

set_option maxHeartbeats 400000 in
theorem toZZ_calls (s : ByteArray) (hp : Bool) (p : ByteArray) (px : Int) (an : ByteArray) (ht ha : Bool) (ta aa : Int) (hn : Bool) (no : Int) (w : World) :
    Calls Try.prog 8 #[zv s hp p px an ht ha ta aa hn no] w fun e w' => e = .returned (zv s hp p px an ht ha ta aa hn no) ∧ Below w.heap.size w w' := by
  go_enter Try.func8, Try.ntmps8
  go_wp2
  exact bodyPost_ret (v := zv s hp p px an ht ha ta aa hn no) (by simp [results, Try.results8, go_sem]) rfl ⟨rfl, ((Below.refl _ _).alloc (Nat.le_refl _) _).alloc (by simp) _⟩

set_option maxHeartbeats 400000 in
theorem toProps_calls (s : ByteArray) (hp : Bool) (p : ByteArray) (px : Int) (an : ByteArray) (ht ha : Bool) (ta aa : Int) (hn : Bool) (no : Int) (w : World) :
    Calls Try.prog 19 #[zv s hp p px an ht ha ta aa hn no] w fun e w' => ∃ pp nd, e = .returned (pv pp s px an ht ha ta aa nd) ∧ Below w.heap.size w w' ∧ PreIs w' pp hp p ∧ NodeIs w' nd hn no := by
  cases hp with
  | false =>
    cases hn with
    | false =>
      go_enter Try.func19, Try.ntmps19
      go_wp2
      exact bodyPost_ret (v := pv none s px an ht ha ta aa none) (by simp [results, Try.results19, go_sem]) rfl ⟨_, _, rfl, by repeat (first | exact Below.refl _ _ | refine Below.alloc ?_ (by simp <;> omega) _), ⟨by simp, fun _ => rfl⟩, ⟨by simp, fun _ => rfl⟩⟩
    | true =>
      go_enter Try.func19, Try.ntmps19
      go_wp2
      exact bodyPost_ret (v := pv none s px an ht ha ta aa (some ⟨w.heap.size + 1 + 1 + 1, 0, none⟩)) (by simp [results, Try.results19, go_sem]) rfl ⟨_, _, rfl, by repeat (first | exact Below.refl _ _ | refine Below.alloc ?_ (by simp <;> omega) _), ⟨by simp, fun _ => rfl⟩, ⟨fun _ => ⟨_, rfl, by simp [go_sem]⟩, by simp⟩⟩
  | true =>
    cases hn with
    | false =>
      go_enter Try.func19, Try.ntmps19
      go_wp2
      exact bodyPost_ret (v := pv (some ⟨w.heap.size + 1 + 1 + 1, 0, none⟩) s px an ht ha ta aa none) (by simp [results, Try.results19, go_sem]) rfl ⟨_, _, rfl, by repeat (first | exact Below.refl _ _ | refine Below.alloc ?_ (by simp <;> omega) _), ⟨fun _ => ⟨_, rfl, by simp [go_sem]⟩, by simp⟩, ⟨by simp, fun _ => rfl⟩⟩
    | true =>
      go_enter Try.func19, Try.ntmps19
      go_wp2
      exact bodyPost_ret (v := pv (some ⟨w.heap.size + 1 + 1 + 1, 0, none⟩) s px an ht ha ta aa (some ⟨w.heap.size + 1 + 1 + 1 + 1, 0, none⟩)) (by simp [results, Try.results19, go_sem]) rfl ⟨_, _, rfl, by repeat (first | exact Below.refl _ _ | refine Below.alloc ?_ (by simp <;> omega) _), ⟨fun _ => ⟨_, rfl, by simp [go_sem]⟩, by simp⟩, ⟨fun _ => ⟨_, rfl, by simp [go_sem]⟩, by simp⟩⟩
end Go.Proofs.Qxb6002391a

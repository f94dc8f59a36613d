import Derived.Test.Qxb6002391aK
import Derived.Deep.RegionHeld
import Derived.Deep.MidRow
namespace Go.Proofs.Qxb6002391a
open Go.RowKit
set_option linter.unusedSimpArgs false
set_option linter.unusedVariables false

theorem store_qs0 (l : Zf) {q : Nat} {v : World} (h : QS zero11 q v) : QS #[.string l.s, .bool l.hp, .string l.p, .int .i32 l.px, .string l.an, .bool l.ht, .bool l.ha, .int .i64 l.ta, .int .i64 l.aa, .bool l.hn, .int .i64 l.no] q (v.setCells q 0 [.string l.s, .bool l.hp, .string l.p, .int .i32 l.px, .string l.an, .bool l.ht, .bool l.ha, .int .i64 l.ta, .int .i64 l.aa, .bool l.hn, .int .i64 l.no]) := by
  obtain ⟨h1, h2, h3⟩ := h
  have hin := World.cell?_setCells_in q [.string l.s, .bool l.hp, .string l.p, .int .i32 l.px, .string l.an, .bool l.ht, .bool l.ha, .int .i64 l.ta, .int .i64 l.aa, .bool l.hn, .int .i64 l.no] 0 v (by
    intro j hj
    rw [Nat.zero_add, h1 j]
    have : j < zero11.size := by simpa [zero11] using hj
    simp [this])
  refine ⟨fun j => ?_, fun j => ?_, ?_⟩
  · show _ = (List.toArray ([.string l.s, .bool l.hp, .string l.p, .int .i32 l.px, .string l.an, .bool l.ht, .bool l.ha, .int .i64 l.ta, .int .i64 l.aa, .bool l.hn, .int .i64 l.no] : List Value))[j]?
    rw [List.getElem?_toArray]
    by_cases hj : j < 11
    · have := hin j (by simpa using hj)
      rw [Nat.zero_add] at this
      rw [this, List.getElem?_eq_getElem]
    · rw [World.cell?_setCells_out q [.string l.s, .bool l.hp, .string l.p, .int .i32 l.px, .string l.an, .bool l.ht, .bool l.ha, .int .i64 l.ta, .int .i64 l.aa, .bool l.hn, .int .i64 l.no] 0 v ⟨q, j, none⟩ (fun _ _ => .inr (by simp; omega)), h1 j, List.getElem?_eq_none (by simp; omega)]
      have e1 : zero11.size = 11 := rfl
      rw [Array.getElem?_eq_none (by omega)]
  · rw [World.frozen?_setCells]; exact h2 j
  · rw [size_setCells]; exact h3
theorem store_keep0 (l : Zf) {q q' : Nat} {c : Array Value} {v : World} (h : QS c q' v) (hne : q' ≠ q) : QS c q' (v.setCells q 0 [.string l.s, .bool l.hp, .string l.p, .int .i32 l.px, .string l.an, .bool l.ht, .bool l.ha, .int .i64 l.ta, .int .i64 l.aa, .bool l.hn, .int .i64 l.no]) := by
  obtain ⟨h1, h2, h3⟩ := h
  refine ⟨fun j => ?_, fun j => ?_, ?_⟩
  · exact (World.cell?_setCells_out q [.string l.s, .bool l.hp, .string l.p, .int .i32 l.px, .string l.an, .bool l.ht, .bool l.ha, .int .i64 l.ta, .int .i64 l.aa, .bool l.hn, .int .i64 l.no] 0 v ⟨q', j, none⟩ (fun e => absurd e hne)).trans (h1 j)
  · rw [World.frozen?_setCells]; exact h2 j
  · rw [size_setCells]; exact h3
theorem there_of_qs {q : Nat} {v : World} (h : QS zero11 q v) : v.there q 0 11 := by
  obtain ⟨h1, h2, h3⟩ := h
  intro j hj
  rw [Nat.zero_add, h1 j, h2 j]
  have : j < zero11.size := hj
  simp [this]
theorem range_of_qs (l : Zf) {q : Nat} {v : World} (h : QS #[.string l.s, .bool l.hp, .string l.p, .int .i32 l.px, .string l.an, .bool l.ht, .bool l.ha, .int .i64 l.ta, .int .i64 l.aa, .bool l.hn, .int .i64 l.no] q v) : v.rangeAt q 0 [.string l.s, .bool l.hp, .string l.p, .int .i32 l.px, .string l.an, .bool l.ht, .bool l.ha, .int .i64 l.ta, .int .i64 l.aa, .bool l.hn, .int .i64 l.no] := by
  intro j u hj
  rw [Nat.zero_add, h.1 j]
  show (List.toArray ([.string l.s, .bool l.hp, .string l.p, .int .i32 l.px, .string l.an, .bool l.ht, .bool l.ha, .int .i64 l.ta, .int .i64 l.aa, .bool l.hn, .int .i64 l.no] : List Value))[j]? = some u
  rw [List.getElem?_toArray]
  exact hj
theorem one11 (l : Zf) : (#[.string l.s, .bool l.hp, .string l.p, .int .i32 l.px, .string l.an, .bool l.ht, .bool l.ha, .int .i64 l.ta, .int .i64 l.aa, .bool l.hn, .int .i64 l.no] : Array Value).all (·.oneCell') = true := by
  refine all_oneCell_toArray (cs := [.string l.s, .bool l.hp, .string l.p, .int .i32 l.px, .string l.an, .bool l.ht, .bool l.ha, .int .i64 l.ta, .int .i64 l.aa, .bool l.hn, .int .i64 l.no]) ?_
  intro v hv
  simp only [List.mem_cons, List.not_mem_nil, or_false] at hv
  rcases hv with rfl | rfl | rfl | rfl | rfl | rfl | rfl | rfl | rfl | rfl | rfl <;> rfl
theorem info26s : (Try.prog.info? 26).map (·.size) = some 11 := by kernel_rfl
theorem store_qs1 (l : Zf) {q : Nat} {v : World} (h : QS zero11 q v) : QS #[.string l.s, .bool l.hp, .string l.p, .int .i32 l.px, .string l.an, .bool l.ht, .bool l.ha, .int .i64 l.ta, .int .i64 l.aa, .bool l.hn, .int .i64 l.no] q (v.setCells q 0 (Array.toList #[.string l.s, .bool l.hp, .string l.p, .int .i32 l.px, .string l.an, .bool l.ht, .bool l.ha, .int .i64 l.ta, .int .i64 l.aa, .bool l.hn, .int .i64 l.no])) := store_qs0 l h
theorem store_keep1 (l : Zf) {q q' : Nat} {c : Array Value} {v : World} (h : QS c q' v) (hne : q' ≠ q) : QS c q' (v.setCells q 0 (Array.toList #[.string l.s, .bool l.hp, .string l.p, .int .i32 l.px, .string l.an, .bool l.ht, .bool l.ha, .int .i64 l.ta, .int .i64 l.aa, .bool l.hn, .int .i64 l.no])) := store_keep0 l h hne
theorem store_below1 (l : Zf) {q B : Nat} {w v : World} (h : Below B w v) (hq : B ≤ q) : Below B w (v.setCells q 0 (Array.toList #[.string l.s, .bool l.hp, .string l.p, .int .i32 l.px, .string l.an, .bool l.ht, .bool l.ha, .int .i64 l.ta, .int .i64 l.aa, .bool l.hn, .int .i64 l.no])) := below_setCells hq [.string l.s, .bool l.hp, .string l.p, .int .i32 l.px, .string l.an, .bool l.ht, .bool l.ha, .int .i64 l.ta, .int .i64 l.aa, .bool l.hn, .int .i64 l.no] 0 v h
theorem store_qs (l : Zf) {q : Nat} {v : World} (h : QS zero11 q v) : QS #[.string l.s, .bool l.hp, .string l.p, .int .i32 l.px, .string l.an, .bool l.ht, .bool l.ha, .int .i64 l.ta, .int .i64 l.aa, .bool l.hn, .int .i64 l.no] q (((((((((((v.setCell ⟨q, 0, none⟩ (.string l.s)).setCell ⟨q, 1, none⟩ (.bool l.hp)).setCell ⟨q, 2, none⟩ (.string l.p)).setCell ⟨q, 3, none⟩ (.int .i32 l.px)).setCell ⟨q, 4, none⟩ (.string l.an)).setCell ⟨q, 5, none⟩ (.bool l.ht)).setCell ⟨q, 6, none⟩ (.bool l.ha)).setCell ⟨q, 7, none⟩ (.int .i64 l.ta)).setCell ⟨q, 8, none⟩ (.int .i64 l.aa)).setCell ⟨q, 9, none⟩ (.bool l.hn)).setCell ⟨q, 10, none⟩ (.int .i64 l.no)) := store_qs0 l h
theorem store_keep (l : Zf) {q q' : Nat} {c : Array Value} {v : World} (h : QS c q' v) (hne : q' ≠ q) : QS c q' (((((((((((v.setCell ⟨q, 0, none⟩ (.string l.s)).setCell ⟨q, 1, none⟩ (.bool l.hp)).setCell ⟨q, 2, none⟩ (.string l.p)).setCell ⟨q, 3, none⟩ (.int .i32 l.px)).setCell ⟨q, 4, none⟩ (.string l.an)).setCell ⟨q, 5, none⟩ (.bool l.ht)).setCell ⟨q, 6, none⟩ (.bool l.ha)).setCell ⟨q, 7, none⟩ (.int .i64 l.ta)).setCell ⟨q, 8, none⟩ (.int .i64 l.aa)).setCell ⟨q, 9, none⟩ (.bool l.hn)).setCell ⟨q, 10, none⟩ (.int .i64 l.no)) := store_keep0 l h hne
theorem store_below (l : Zf) {q B : Nat} {w v : World} (h : Below B w v) (hq : B ≤ q) : Below B w (((((((((((v.setCell ⟨q, 0, none⟩ (.string l.s)).setCell ⟨q, 1, none⟩ (.bool l.hp)).setCell ⟨q, 2, none⟩ (.string l.p)).setCell ⟨q, 3, none⟩ (.int .i32 l.px)).setCell ⟨q, 4, none⟩ (.string l.an)).setCell ⟨q, 5, none⟩ (.bool l.ht)).setCell ⟨q, 6, none⟩ (.bool l.ha)).setCell ⟨q, 7, none⟩ (.int .i64 l.ta)).setCell ⟨q, 8, none⟩ (.int .i64 l.aa)).setCell ⟨q, 9, none⟩ (.bool l.hn)).setCell ⟨q, 10, none⟩ (.int .i64 l.no)) := below_setCells hq [.string l.s, .bool l.hp, .string l.p, .int .i32 l.px, .string l.an, .bool l.ht, .bool l.ha, .int .i64 l.ta, .int .i64 l.aa, .bool l.hn, .int .i64 l.no] 0 v h

end Go.Proofs.Qxb6002391a

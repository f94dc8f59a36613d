import Derived.Test.Qxb6602594aGrE
import Derived.Deep.CutRange
import Derived.BigRegion
import Derived.Deep.RegionHeld3
import Derived.BigQuiet
namespace Go.Proofs.Qxb6602594a
open Go.RowKit
set_option linter.unusedSimpArgs false
set_option linter.unusedVariables false


theorem adj_lt {tl n : Nat} {tz kz : List Int} {rs : List (List Int)} {kinds : Int} (hok : RowsAll n rs (EdOk tl tz kz n kinds)) : ∀ x y, x < n → Tj.Ed (adj tz kz rs kinds) x y → y < n := by
  intro x y hx hy
  obtain ⟨e, he, h1⟩ := List.mem_map.1 hy
  obtain ⟨m, hm, rfl⟩ := List.mem_iff_getElem.1 he
  have h2 := hok x hx m hm
  have h3 : (rs.getD x []).getD m 0 = (rs.getD x [])[m] := by rw [List.getD_eq_getElem?_getD, List.getElem?_eq_getElem hm]; rfl
  rw [h3] at h2
  obtain ⟨_, _, h4⟩ := h2
  split at h1
  · rename_i hc
    have := h4 hc
    simp only [Option.some.injEq] at h1
    omega
  · cases h1

def edv (t : Int) (k : Int) (i : Nat) : Value := if i = 1 then .int .i32 t else if i = 2 then .int .i64 k else if i = 4 then .bool false else .int .i32 0

theorem Rep.topFrozen {W w : World} {n : Nat} {comp index low : Nat → Nat} {on : Nat → Bool} {stack : List Nat} {vs : Value} {frames : List (Nat × Nat)} {g l cap : Nat} (h : Rep W w n comp index low on stack vs frames (.slice (some ⟨g, 0, none⟩) l cap)) : ∀ j, w.frozen? ⟨g, j, none⟩ = false := by
  intro j
  rcases h.frm.2 with ⟨h1, _⟩ | ⟨g', cap', cur, hv, _, hg, _⟩
  · cases h1
  · cases hv
    simp [World.frozen?, hg]

/-- A struct of another type lies apart of the growing rows. -/
theorem Rep.edApart {W w : World} {n p : Nat} {f : Nat → Value} {comp index low : Nat → Nat} {on : Nat → Bool} {stack : List Nat} {vs : Value} {frames : List (Nat × Nat)} {vf : Value} (h : Rep W w n comp index low on stack vs frames vf) (hp : w.rowIs p 99 5 f) : some p ≠ vs.ownBlock ∧ some p ≠ vf.ownBlock := by
  obtain ⟨cc, hc, _⟩ := hp
  constructor
  · rcases h.stk.2 with ⟨h1, _⟩ | ⟨g, cap, cur, h1, _, h3, _⟩
    · rw [h1]; simp [Value.ownBlock]
    · rw [h1]
      simp only [Value.ownBlock, ne_eq, Option.some.injEq]
      intro e
      rw [← e, hc] at h3
      simp at h3
  · rcases h.frm.2 with ⟨h1, _⟩ | ⟨g, cap, cur, h1, _, h3, _⟩
    · rw [h1]; simp [Value.ownBlock]
    · rw [h1]
      simp only [Value.ownBlock, ne_eq, Option.some.injEq]
      intro e
      rw [← e, hc] at h3
      simp at h3

theorem Rep.topAt {W w : World} {n : Nat} {comp index low : Nat → Nat} {on : Nat → Bool} {stack : List Nat} {vs : Value} {x e g cap : Nat} {fs : List (Nat × Nat)} (h : Rep W w n comp index low on stack vs ((x, e) :: fs) (.slice (some ⟨g, 0, none⟩) (fs.length + 1) cap)) : w.cell? ⟨g, fs.length * 2, none⟩ = some (iv x) ∧ w.cell? ⟨g, fs.length * 2 + 1, none⟩ = some (iv e) ∧ (∀ j, w.frozen? ⟨g, j, none⟩ = false) ∧ W.heap.size + 4 ≤ g ∧ g < w.heap.size := by
  obtain ⟨g', cap', hv, h1, h2, h3, h4, _⟩ := h.topFrame
  cases hv
  exact ⟨h2, h3, h4, h1, World.block_lt_of_cell? w _ h2⟩

theorem adj_at {tz kz : List Int} {rs : List (List Int)} {kinds : Int} {x e ee : Nat} (hlt : e < (rs.getD x []).length) (heq : (rs.getD x []).getD e 0 = (ee : Int)) :
    (adj tz kz rs kinds x)[e]?.getD none = if cts kinds (kz.getD ee 0) then some (tz.getD ee 0).toNat else none := by
  have h3 : (rs.getD x [])[e] = (ee : Int) := by rw [List.getD_eq_getElem?_getD, List.getElem?_eq_getElem hlt] at heq; exact heq
  unfold adj
  rw [List.getElem?_map, List.getElem?_eq_getElem hlt, h3]
  simp

theorem keep_set {w : World} {b o : Nat} {a : Addr} {v u : Value} (h : w.cell? ⟨b, o, none⟩ = some u) (hne : b ≠ a.block) : (w.setCell a v).cell? ⟨b, o, none⟩ = some u := (World.cell?_setCell_far w a ⟨b, o, none⟩ v (Ne.symm hne)).trans h
theorem keep_drew {w : World} {a : Addr} {u : Value} (h : w.cell? a = some u) : w.drew.cell? a = some u := h

theorem Try.info103 : (Try.prog.info? 103).map (fun i => (i.zero, i.size, i.bytes)) = some (some (.agg #[.int .i32 0, .int .i32 0]), 2, 8) := by kernel_rfl

theorem cell_two_new (w : World) (v v' : Value) (ty : TypeId) (b : Nat) (hb : b = w.heap.size) : ∀ j u, [v, v'][j]? = some u → (w.alloc (.cells #[v, v'] ty)).cell? ((⟨b, 0, none⟩ : Addr).add j) = some u := by
  subst hb
  intro j u hj
  match j, hj with
  | 0, hj => rw [← hj]; exact World.cell?_alloc_at #[v, v'] ty _ 0 rfl
  | 1, hj => rw [← hj]; exact World.cell?_alloc_at #[v, v'] ty _ 1 rfl
  | j + 2, hj => simp at hj

theorem ed_new (w : World) (t k : Int) : ((w.alloc (.cells #[.int .i32 0, .int .i32 t, .int .i64 k, .int .i32 0, .bool false] 99)).drew).rowIs w.heap.size 99 5 (edv t k) := by
  refine (World.rowIs_alloc w #[.int .i32 0, .int .i32 t, .int .i64 k, .int .i32 0, .bool false] 99 (edv t k) ?_).drew
  intro i hi
  have hi' : i < 5 := hi
  have : i = 0 ∨ i = 1 ∨ i = 2 ∨ i = 3 ∨ i = 4 := by omega
  rcases this with rfl | rfl | rfl | rfl | rfl <;> rfl
end Go.Proofs.Qxb6602594a

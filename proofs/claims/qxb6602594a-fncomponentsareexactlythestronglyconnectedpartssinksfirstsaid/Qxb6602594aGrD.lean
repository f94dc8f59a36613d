import Derived.Test.Qxb6602594aGrC
import Derived.Deep.CutRange
import Derived.BigRegion
import Derived.BigQuiet
namespace Go.Proofs.Qxb6602594a
open Go.RowKit
set_option linter.unusedSimpArgs false
set_option linter.unusedVariables false

/-- The counted edges of a node, edge by edge. -/
def adj (tz kz : List Int) (rs : List (List Int)) (kinds : Int) (x : Nat) : List (Option Nat) :=
  (rs.getD x []).map (fun e => if cts kinds (kz.getD e.toNat 0) then some (tz.getD e.toNat 0).toNat else none)

/-- The digraph in memory: the struct at db, its edges at eb, the rows of out. -/
structure Dg (w : World) (db eb : Nat) (tl : Nat) (tz kz : List Int) (oa : Option Addr) (n oc : Nat) (rs : List (List Int)) : Prop where
  d0 : w.cell? ⟨db, 0, none⟩ = some (.slice (some ⟨eb, 0, none⟩) tl tl)
  d1 : w.cell? ⟨db, 1, none⟩ = some (.slice oa n oc)
  ed : ∀ e, e < tl → w.cell? ⟨eb, e * 5, none⟩ = some (.int .i32 0) ∧ w.cell? ⟨eb, e * 5 + 1, none⟩ = some (.int .i32 (tz.getD e 0)) ∧ w.cell? ⟨eb, e * 5 + 2, none⟩ = some (.int .i64 (kz.getD e 0)) ∧ w.cell? ⟨eb, e * 5 + 3, none⟩ = some (.int .i32 0) ∧ w.cell? ⟨eb, e * 5 + 4, none⟩ = some (.bool false)
  rows : IsRows w oa n oc rs

theorem Dg.later {w w' : World} {db eb tl : Nat} {tz kz : List Int} {oa : Option Addr} {n oc : Nat} {rs : List (List Int)} (h : Dg w db eb tl tz kz oa n oc rs) (hb : Below w.heap.size w w') : Dg w' db eb tl tz kz oa n oc rs := by
  have k : ∀ {a : Addr} {v : Value}, w.cell? a = some v → w'.cell? a = some v := fun hc => (hb.cell (World.block_lt_of_cell? w _ hc)).trans hc
  refine ⟨k h.d0, k h.d1, fun e he => ?_, h.rows.later hb⟩
  obtain ⟨h1, h2, h3, h4, h5⟩ := h.ed e he
  exact ⟨k h1, k h2, k h3, k h4, k h5⟩

theorem rep_start (w : World) (n : Nat) : Rep w ((((w.alloc (.cells (madeCells #[.int .i32 0] n) 21)).alloc (.cells (madeCells #[.int .i32 0] n) 21)).alloc (.cells (madeCells #[.int .i32 0] n) 21)).alloc (.cells (madeCells #[.bool false] n) 4))
    n Tj.s0.comp Tj.s0.index Tj.s0.low Tj.s0.on Tj.s0.stack (.slice none 0 0) [] (.slice none 0 0) := by
  refine ⟨((((Below.refl _ _).alloc (Nat.le_refl _) _).alloc (by simp) _).alloc (by simp; omega) _).alloc (by simp; omega) _, by simp, ?_, ?_, ?_, ?_, World.ownsRow_nil _ _ _ _, World.ownsRow_nil _ _ _ _⟩
  · exact (((World.rowIs_made w (.int .i32 0) n 21).alloc _).alloc _).alloc _
  · have := World.rowIs_made (w.alloc (.cells (madeCells #[.int .i32 0] n) 21)) (.int .i32 0) n 21
    simp only [World.size_alloc] at this
    exact (this.alloc _).alloc _
  · have := World.rowIs_made ((w.alloc (.cells (madeCells #[.int .i32 0] n) 21)).alloc (.cells (madeCells #[.int .i32 0] n) 21)) (.int .i32 0) n 21
    simp only [World.size_alloc] at this
    exact this.alloc _
  · have := World.rowIs_made (((w.alloc (.cells (madeCells #[.int .i32 0] n) 21)).alloc (.cells (madeCells #[.int .i32 0] n) 21)).alloc (.cells (madeCells #[.int .i32 0] n) 21)) (.bool false) n 4
    simp only [World.size_alloc] at this
    exact this

theorem Rep.vfShape {W w : World} {n : Nat} {comp index low : Nat → Nat} {on : Nat → Bool} {stack : List Nat} {vs : Value} {frames : List (Nat × Nat)} {vf : Value} (h : Rep W w n comp index low on stack vs frames vf) : ∃ a c, vf = .slice a frames.length c := by
  rcases h.frm.2 with ⟨h1, h0⟩ | ⟨g, cap, cur, hv, _⟩
  · exact ⟨none, 0, by rw [h1, h0]⟩
  · exact ⟨_, _, hv⟩

theorem cell_one_new' (w : World) (v : Value) (ty : TypeId) (b : Nat) (hb : b = w.heap.size) : ∀ j u, [v][j]? = some u → (w.alloc (.cells #[v] ty)).cell? ((⟨b, 0, none⟩ : Addr).add j) = some u := by
  subst hb
  exact cell_one_new _ _ _


/-- The first loop in a code. -/
def firstLoop : Code → Option Code
  | .loop c => some c
  | .seq a b => match firstLoop a with
    | some c => some c
    | none => firstLoop b
  | .block _ c => firstLoop c
  | .scope c => firstLoop c
  | .cond _ a b => match firstLoop a with
    | some c => some c
    | none => firstLoop b
  | _ => none
/-- The body of the loop inside the first loop. -/
def innerOf (f : Func) : Code := ((f.body.bind firstLoop).bind firstLoop).getD .skip

def nth : List Value → Nat → Value
  | [], _ => undef
  | v :: _, 0 => v
  | _ :: l, n + 1 => nth l n

set_option maxRecDepth 1000000 in
/-- The frame inside the inner loop: what it writes holds something (u), what it does not write and does not read as well (c). -/
def Fr (db n B : Nat) (kinds : Int) (c u : Nat → Value) (vs : Value) (nx cs : Nat) (vf : Value) : Act :=
  ⟨#[.pointer (some ⟨db, 0, none⟩), .int .i64 kinds, c 2, c 3, c 4, .int .i64 n, .slice (some ⟨B, 0, none⟩) n n, .slice (some ⟨B + 1, 0, none⟩) n n, .slice (some ⟨B + 1 + 1, 0, none⟩) n n, .slice (some ⟨B + 1 + 1 + 1, 0, none⟩) n n, vs, .int .i32 nx, .int .i32 cs, c 13, vf, u 15, u 16, u 17, u 18, u 19, c 20, c 21, c 22, c 23, c 24, c 25, c 26, c 27, c 28, c 29, c 30, c 31, c 32, c 33, c 34, c 35, c 36, c 37, c 38, c 39, c 40, c 41, c 42, c 43, c 44, c 45, c 46, c 47, c 48, c 49, c 50, c 51, c 52, c 53, c 54, c 55, c 56, c 57, c 58, c 59, c 60, c 61, c 62, c 63, u 64, u 65, u 66, u 67, u 68, u 69, u 70, u 71, u 72, u 73, u 74, u 75, u 76, u 77, u 78, u 79, u 80, u 81, u 82, u 83, u 84, u 85, u 86, u 87, u 88, u 89, u 90, u 91, u 92, u 93, u 94, u 95, u 96, u 97, u 98, u 99, u 100, u 101, u 102, u 103, u 104, u 105, u 106, u 107, u 108, u 109, u 110, u 111, u 112, u 113, u 114, u 115, u 116, u 117, u 118, u 119, u 120, u 121, u 122, u 123, u 124, u 125, u 126, u 127, u 128, u 129, u 130, u 131, u 132, u 133, u 134, u 135, u 136, u 137, u 138, u 139, u 140, u 141, u 142, u 143, u 144, u 145, u 146, u 147, u 148, u 149, u 150, u 151, u 152, u 153, u 154, u 155, u 156, u 157, u 158, u 159, u 160, u 161, u 162, u 163, u 164, u 165, u 166, u 167, u 168, u 169, u 170, u 171, u 172, u 173, u 174, u 175, u 176, u 177, u 178, u 179, u 180, u 181, u 182, u 183, u 184, u 185, u 186, u 187, u 188, u 189, u 190, u 191, u 192, u 193, u 194, u 195, u 196, u 197, u 198, u 199, u 200, u 201, u 202, u 203, u 204, u 205, u 206, u 207, u 208, u 209, u 210, u 211, u 212, u 213, u 214, u 215, u 216, u 217, u 218, u 219, u 220, u 221, u 222, u 223, u 224, u 225, u 226, u 227, u 228, u 229, u 230, u 231, u 232, u 233, u 234, u 235, u 236, u 237, u 238, u 239, u 240, u 241, u 242, u 243, u 244, u 245, c 246, c 247], []⟩

/-- The inner loop's relation, m rounds at most to come. -/
def WI (n : Nat) (G : Nat → List (Option Nat)) (k db : Nat) (kinds : Int) (w : World) (c : Nat → Value) (m : Nat) (a : Act) (wr : World) : Prop :=
  ∃ (S : Tj.St) (vs vf : Value), a = Fr db n w.heap.size kinds c (fun j => nth a.tmps.toList j) vs S.next S.comps vf ∧ Tj.Rc n G S ∧ m = Tj.pot n G S ∧ (∀ z, z < k + 1 → S.index z ≠ 0) ∧ Rep w wr n S.comp S.index S.low S.on S.stack vs S.frames vf
/-- Behind it. -/
def WX (n : Nat) (G : Nat → List (Option Nat)) (k db : Nat) (kinds : Int) (w : World) (c : Nat → Value) (a : Act) (wr : World) : Prop :=
  ∃ (S : Tj.St) (vs vf : Value), a = Fr db n w.heap.size kinds c (fun j => nth a.tmps.toList j) vs S.next S.comps vf ∧ Tj.Rc n G S ∧ S.frames = [] ∧ (∀ z, z < k + 1 → S.index z ≠ 0) ∧ Rep w wr n S.comp S.index S.low S.on S.stack vs [] (.slice none 0 0)
end Go.Proofs.Qxb6602594a

import Derived.Test.Qxb6602594aGrGNo
import Derived.Test.Qxb6602594aGrGNew
import Derived.Test.Qxb6602594aGrGOn
import Derived.Test.Qxb6602594aGrGDone
import Derived.Test.Qxb6602594aGrPStay
import Derived.Test.Qxb6602594aGrPRoot
import Derived.Test.Qxb6602594aGrQStay
import Derived.Test.Qxb6602594aGrQRoot
import Derived.Deep.CutRange
import Derived.BigRegion
import Derived.BigQuiet
namespace Go.Proofs.Qxb6602594a
open Go.RowKit
set_option linter.unusedSimpArgs false
set_option linter.unusedVariables false


theorem inner (n eb tl oc k db : Nat) (tz kz : List Int) (rs : List (List Int)) (oa : Option Addr) (kinds : Int) (w : World) (c : Nat → Value) (Q0 : Exit → Act → World → Prop)
    (ht : tl ≤ 1048576) (hn : n ≤ 1048576) (hr : ∀ i, i < n → (rs.getD i []).length ≤ 1048576) (hD : Dg w db eb tl tz kz oa n oc rs) (hok : RowsAll n rs (EdOk tl tz kz n kinds)) (htw : I32s tz) (hexit : ∀ a' w', WX n (adj tz kz rs kinds) k db kinds w c a' w' → Q0 (.exit 2) a' w') (a : Act) (wr : World) (m : Nat) (hI : WI n (adj tz kz rs kinds) k db kinds w c m a wr) :
    Code.wp Try.prog (.loop (innerOf Try.f45)) Q0 a wr := by
  refine wp_loop_ghost (WI n (adj tz kz rs kinds) k db kinds w c) m hI ?_
  intro m a wr hI
  obtain ⟨S, vs, vf, ha, hRc, rfl, hV, hRep⟩ := hI
  rw [ha]
  generalize (fun j => nth a.tmps.toList j) = u
  clear ha
  rcases hF : S.frames with _ | ⟨⟨x, e⟩, fs⟩
  · exact inner_out n (adj tz kz rs kinds) k db kinds w wr c u S vs vf _ Q0 hn hF hRc hV hRep hexit
  · by_cases hlt : e < (rs.getD x []).length
    · rcases hx : (adj tz kz rs kinds x)[e]?.getD none with _ | y
      · exact inner_edge_no n eb tl oc k db x e tz kz rs oa kinds fs w wr c u S vs vf Q0 ht hn hr hD hok htw hF hRc hV hRep hlt hx
      · by_cases hiy : S.index y = 0
        · exact inner_edge_new n eb tl oc k db x e tz kz rs oa kinds fs w wr c u S vs vf Q0 ht hn hr hD hok htw hF hRc hV hRep hlt y hx hiy
        · rcases Bool.eq_false_or_eq_true (S.on y) with hon | hon
          · exact inner_edge_on n eb tl oc k db x e tz kz rs oa kinds fs w wr c u S vs vf Q0 ht hn hr hD hok htw hF hRc hV hRep hlt y hx hiy hon
          · exact inner_edge_done n eb tl oc k db x e tz kz rs oa kinds fs w wr c u S vs vf Q0 ht hn hr hD hok htw hF hRc hV hRep hlt y hx hiy hon
    · by_cases hlx : S.low x = S.index x
      · rcases hfs : fs with _ | ⟨⟨q, qe⟩, fs'⟩
        · exact inner_pop_root n eb tl oc k db x e tz kz rs oa kinds fs w wr c u S vs vf Q0 ht hn hr hD hok htw hF hRc hV hRep hlt hfs hlx
        · exact inner_pop_par_root n eb tl oc k db x e tz kz rs oa kinds fs w wr c u S vs vf Q0 ht hn hr hD hok htw hF hRc hV hRep hlt q qe fs' hfs hlx
      · rcases hfs : fs with _ | ⟨⟨q, qe⟩, fs'⟩
        · exact inner_pop_stay n eb tl oc k db x e tz kz rs oa kinds fs w wr c u S vs vf Q0 ht hn hr hD hok htw hF hRc hV hRep hlt hfs hlx
        · exact inner_pop_par_stay n eb tl oc k db x e tz kz rs oa kinds fs w wr c u S vs vf Q0 ht hn hr hD hok htw hF hRc hV hRep hlt q qe fs' hfs hlx

theorem inner' (n eb tl oc k db : Nat) (tz kz : List Int) (rs : List (List Int)) (oa : Option Addr) (kinds : Int) (w : World) (Q0 : Exit → Act → World → Prop) (a : Act) (wr : World) (S : Tj.St) (vs vf : Value)
    (ht : tl ≤ 1048576) (hn : n ≤ 1048576) (hr : ∀ i, i < n → (rs.getD i []).length ≤ 1048576) (hD : Dg w db eb tl tz kz oa n oc rs) (hok : RowsAll n rs (EdOk tl tz kz n kinds)) (htw : I32s tz)
    (ha : a = Fr db n w.heap.size kinds (fun j => nth a.tmps.toList j) (fun j => nth a.tmps.toList j) vs S.next S.comps vf)
    (hRc : Tj.Rc n (adj tz kz rs kinds) S) (hV : ∀ z, z < k + 1 → S.index z ≠ 0) (hRep : Rep w wr n S.comp S.index S.low S.on S.stack vs S.frames vf)
    (hexit : ∀ (S' : Tj.St) (vs' vf' : Value) (u : Nat → Value) (w' : World), Tj.Rc n (adj tz kz rs kinds) S' → S'.frames = [] → (∀ z, z < k + 1 → S'.index z ≠ 0) → Rep w w' n S'.comp S'.index S'.low S'.on S'.stack vs' [] (.slice none 0 0) → Q0 (.exit 2) (Fr db n w.heap.size kinds (fun j => nth a.tmps.toList j) u vs' S'.next S'.comps vf') w') :
    Code.wp Try.prog (.loop (innerOf Try.f45)) Q0 a wr := by
  refine inner n eb tl oc k db tz kz rs oa kinds w (fun j => nth a.tmps.toList j) Q0 ht hn hr hD hok htw ?_ a wr _ ⟨S, vs, vf, ha, hRc, rfl, hV, hRep⟩
  rintro a' w' ⟨S', vs', vf', ha', h1, h2, h3, h4⟩
  rw [ha']
  exact hexit S' vs' vf' _ w' h1 h2 h3 h4
end Go.Proofs.Qxb6602594a

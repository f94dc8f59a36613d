import Derived.Test.Qxb6602594aGrD
import Derived.Deep.CutRange
import Derived.BigRegion
import Derived.BigQuiet
namespace Go.Proofs.Qxb6602594a
open Go.RowKit
set_option linter.unusedSimpArgs false
set_option linter.unusedVariables false


set_option maxRecDepth 1000000 in
set_option maxHeartbeats 4000000 in
theorem inner_out (n : Nat) (G : Nat → List (Option Nat)) (k db : Nat) (kinds : Int) (w wr : World) (c u : Nat → Value) (S : Tj.St) (vs vf : Value) (m : Nat) (Q0 : Exit → Act → World → Prop)
    (hn : n ≤ 1048576) (hF : S.frames = []) (hRc : Tj.Rc n G S) (hV : ∀ z, z < k + 1 → S.index z ≠ 0) (hRep : Rep w wr n S.comp S.index S.low S.on S.stack vs S.frames vf)
    (hexit : ∀ a' w', WX n G k db kinds w c a' w' → Q0 (.exit 2) a' w') :
    Code.wp Try.prog (innerOf Try.f45) (Exit.then (fun a' w' => ∃ m', m' < m ∧ WI n G k db kinds w c m' a' w') Q0) (Fr db n w.heap.size kinds c u vs S.next S.comps vf) wr := by
  obtain ⟨fa, fc, hvf⟩ := hRep.vfShape
  rw [hF] at hvf
  subst hvf
  have HX : Hid (∀ a' w', WX n G k db kinds w c a' w' → Q0 (.exit 2) a' w') := hexit
  have HF : Hid (S.frames = []) := hF
  have HV : Hid (∀ z, z < k + 1 → S.index z ≠ 0) := hV
  have HRc : Hid (Tj.Rc n G S) := hRc
  have HRep : Hid (Rep w wr n S.comp S.index S.low S.on S.stack vs S.frames (.slice fa 0 fc)) := hRep
  clear hexit hF hV hRc hRep
  conv => arg 2; whnf
  unfold Fr
  go_wp2
  refine HX.out _ _ ⟨S, _, _, rfl, HRc.out, HF.out, HV.out, HRep.out.noFrames⟩
end Go.Proofs.Qxb6602594a

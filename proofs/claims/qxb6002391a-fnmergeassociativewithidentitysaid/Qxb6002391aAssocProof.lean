import Derived.Test.Qxb6002391aRows
import Derived.Test.Qxb6002391aFacts
import Derived.Test.Qxb6002391aOpen
import Derived.Test.Qxb6002391aL
import Derived.WalkKit
import Derived.ProofKit
import Derived.OpenShut
import Derived.ShutString
import Derived.ChangeOld
import Derived.Below
import Derived.SliceStrings
namespace Go.Proofs.Qxb6002391a.fnMergeAssociativeWithIdentity
open Go.ChangeShapes Go.WideShapes Go.ChangeAt Go.RowKit
open Go.ChangeMaps (open_string shut_string)
set_option linter.unusedVariables false
set_option linter.unusedSimpArgs false

theorem own : ownKnob Try.prog.godebug = none := by kernel_rfl
theorem laidOut : laidOutB Try.prog = true := fact_laid

set_option maxRecDepth 100000 in
theorem lifted (os : Os) (started : os.Started) (H : Type) (enc : TypeId × Value → H) :
    ReturnsInHanded {} Try.checked os 5 .any (Rows.fnMergeAssociativeWithIdentitySpec.pre6 enc Try.prog Try.f5 Rows.fnMergeAssociativeWithIdentityRow.domain false) (Rows.fnMergeAssociativeWithIdentitySpec.post enc Try.prog Try.f5 false true false false) := by
  refine returnsInHanded_of_change (C := Try.checked) own started (by kernel_rfl) Try.func5
    (ChangeSpec.witness6 (enc := enc) (C := Try.checked) false ⟨#[], #[.agg #[.string ByteArray.empty, .bool false, .string ByteArray.empty, .int .i32 0, .string ByteArray.empty, .bool false, .bool false, .int .i64 0, .int .i64 0, .bool false, .int .i64 0], .agg #[.string ByteArray.empty, .bool false, .string ByteArray.empty, .int .i32 0, .string ByteArray.empty, .bool false, .bool false, .int .i64 0, .int .i64 0, .bool false, .int .i64 0], .agg #[.string ByteArray.empty, .bool false, .string ByteArray.empty, .int .i32 0, .string ByteArray.empty, .bool false, .bool false, .int .i64 0, .int .i64 0, .bool false, .int .i64 0]], []⟩ 8 (by kernel_rfl) (by kernel_rfl) (by kernel_rfl) (by kernel_rfl)) ?_
  intro W base args ds gs before hval0 hW hcnd _
  have hval : ∀ (j : Nat) t v, Try.f5.params[j]? = some t → args[j]? = some v → Value.okWide Try.prog W .any base t v := hval0
  have hW' := hW
  obtain ⟨p, q, hA0, hV, rfl, hfz, hnd⟩ := hW
  have hA : DataW.TrodAll enc Try.prog W 0 (fun _ => true) true Try.f5.params.toList args.toList ds p := hA0
  rw [Try.params5] at hA hval
  obtain ⟨v0, vs0, d0, ds0, p0, q0, hargs, rfl, rfl, h0, r0⟩ := trodAll_cons hA
  obtain ⟨v1, vs1, d1, ds1, p1, q1, rfl, rfl, rfl, h1, r1⟩ := trodAll_cons r0
  obtain ⟨v2, vs2, d2, ds2, p2, q2, rfl, rfl, rfl, h2, r2⟩ := trodAll_cons r1
  obtain ⟨rfl, rfl, rfl⟩ := trodAll_nil r2
  obtain rfl : args = #[v0, v1, v2] := by cases args; simp_all
  obtain ⟨rfl, rfl⟩ := trodVars_none hV
  have k0 := h0
  have lt0 : ∀ x ∈ p0, x.block < W.heap.size := by obtain ⟨m, hm⟩ := k0; exact DataW.trod_lt m _ _ _ hm
  obtain ⟨s0, hp0, p0_, px0, an0, ht0, ha0, ta0, aa0, hn0, no0, hz0, m0a, m0b, m0c⟩ := isZ_of (hval 0 23 v0 rfl rfl) h0
  subst hz0
  have k1 := h1
  have lt1 : ∀ x ∈ p1, x.block < W.heap.size := by obtain ⟨m, hm⟩ := k1; exact DataW.trod_lt m _ _ _ hm
  obtain ⟨s1, hp1, p1_, px1, an1, ht1, ha1, ta1, aa1, hn1, no1, hz1, m1a, m1b, m1c⟩ := isZ_of (hval 1 23 v1 rfl rfl) h1
  subst hz1
  have k2 := h2
  have lt2 : ∀ x ∈ p2, x.block < W.heap.size := by obtain ⟨m, hm⟩ := k2; exact DataW.trod_lt m _ _ _ hm
  obtain ⟨s2, hp2, p2_, px2, an2, ht2, ha2, ta2, aa2, hn2, no2, hz2, m2a, m2b, m2c⟩ := isZ_of (hval 2 23 v2 rfl rfl) h2
  subst hz2
  clear hA0 hval0
  refine (assoc_walk ⟨s0, hp0, p0_, px0, an0, ht0, ha0, ta0, aa0, hn0, no0⟩ ⟨s1, hp1, p1_, px1, an1, ht1, ha1, ta1, aa1, hn1, no1⟩ ⟨s2, hp2, p2_, px2, an2, ht2, ha2, ta2, aa2, hn2, no2⟩ W m0a m0b m0c m1a m1b m1c m2a m2b m2c).mono fun e W' ⟨he, bel⟩ => ?_
  subst he
  exact ⟨_, rfl, _, _, _, [], _, [], hW', trodAll_mk1 (shut_bool Try.underlying4 _), (trodAll_cons_mk (Below.trod laidOut (by kernel_rfl) (of_decide_eq_true (by kernel_rfl)) k0 bel lt0) (trodAll_cons_mk (Below.trod laidOut (by kernel_rfl) (of_decide_eq_true (by kernel_rfl)) k1 bel lt1) (trodAll_cons_mk (Below.trod laidOut (by kernel_rfl) (of_decide_eq_true (by kernel_rfl)) k2 bel lt2) trodAll_mk0))), rfl, bel.frame _, fun h => by cases h⟩

theorem and_two {a b : Bool} (ha : a = true) (hb : b = true) : (a && b) = true := by rw [ha, hb]; rfl
theorem closed : joinedFacts Try.prog 5 Try.f5 Rows.fnMergeAssociativeWithIdentitySpec Rows.fnMergeAssociativeWithIdentityRow = true := by
  unfold joinedFacts
  exact (and_two (and_two (and_two (and_two (and_two (and_two (and_two (and_two (and_two (and_two (and_two (and_two (and_two (and_two (and_two (and_two (and_two (and_two (and_two (and_two (and_two (and_two (and_two (and_two (and_two (and_two (and_two (and_two (and_two (and_two (and_two (by kernel_rfl) fact_laid) fact_rowed) (by kernel_rfl)) (by kernel_rfl)) (by kernel_rfl)) (by kernel_rfl)) (by kernel_rfl)) (by kernel_rfl)) (by kernel_rfl)) (by kernel_rfl)) (by kernel_rfl)) (by kernel_rfl)) (by kernel_rfl)) (by kernel_rfl)) (by kernel_rfl)) (by kernel_rfl)) (by kernel_rfl)) (by kernel_rfl)) (by kernel_rfl)) (by kernel_rfl)) (by kernel_rfl)) (by kernel_rfl)) (by kernel_rfl)) fact_heard) fact_may) (by rw [fact_lifts]; kernel_rfl)) (by rw [fact_make]; kernel_rfl)) (by kernel_rfl)) (by kernel_rfl)) (by kernel_rfl)) (by kernel_rfl))

theorem over : Rows.fnMergeAssociativeWithIdentityRow.holds Try.pinned (OpenSpec.ofChange Rows.fnMergeAssociativeWithIdentitySpec) :=
  OpenClaim.holds_of_wide 5 Try.f5 rfl rfl rfl rfl rfl rfl rfl ⟨rfl, rfl, rfl, rfl, rfl⟩ rfl rfl rfl rfl rfl (by kernel_rfl) Try.func5 closed
    (of_decide_eq_true (by kernel_rfl)) (by unfold Func.isWrapper; first | (rw [if_pos (by decide +kernel)]; kernel_rfl) | (rw [if_neg (by decide +kernel)]; exact ⟨rfl, rfl⟩))
    (fun os started H enc _ => lifted os started H enc)

theorem proved : Rows.FnMergeAssociativeWithIdentitySaid := over
end Go.Proofs.Qxb6002391a.fnMergeAssociativeWithIdentity

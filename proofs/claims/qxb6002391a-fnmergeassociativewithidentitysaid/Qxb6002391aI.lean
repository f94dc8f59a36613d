import Derived.Test.Qxb6002391aF
import Derived.Deep.RegionHeld
namespace Go.Proofs.Qxb6002391a
open Go.RowKit
set_option linter.unusedSimpArgs false
set_option linter.unusedVariables false

theorem QS.made (X : World) (c : Array Value) (t : TypeId) : QS c X.heap.size (X.alloc (.cells c t)) := QS.new (Below.refl _ _)
theorem QS.alloc {c : Array Value} {q : Nat} {X : World} (h : QS c q X) (o : Obj) : QS c q (X.alloc o) := QS.keep ((Below.refl _ _).alloc (Nat.le_refl _) _) h

set_option maxRecDepth 100000 in
set_option maxHeartbeats 8000000 in
theorem same_yes (x_s : ByteArray) (x_hp : Bool) (x_p : ByteArray) (x_px : Int) (x_an : ByteArray) (x_ht x_ha : Bool) (x_ta x_aa : Int) (x_hn : Bool) (x_no : Int)
    (y_s : ByteArray) (y_hp : Bool) (y_p : ByteArray) (y_px : Int) (y_an : ByteArray) (y_ht y_ha : Bool) (y_ta y_aa : Int) (y_hn : Bool) (y_no : Int) (w : World)
    (h1 : x_ht = y_ht) (h2 : x_ha = y_ha) (h3 : x_ht = true → x_s = y_s ∧ x_px = y_px ∧ x_ta = y_ta ∧ x_hp = y_hp ∧ (x_hp = true → x_p = y_p)) (h4 : x_ha = true → x_an = y_an ∧ x_aa = y_aa ∧ x_hn = y_hn ∧ (x_hn = true → x_no = y_no)) :
    Calls Try.prog 16 #[zv x_s x_hp x_p x_px x_an x_ht x_ha x_ta x_aa x_hn x_no, zv y_s y_hp y_p y_px y_an y_ht y_ha y_ta y_aa y_hn y_no] w fun e w' => e = .returned (.bool true) ∧ Below w.heap.size w w' := by
  subst h1 h2
  go_enter Try.func16, Try.ntmps16
  go_upto_region 0 with fail
  go_cut [2, 3, 4] from 5 (fun s2 s3 s4 wc => s2 = .pointer (some ⟨w.heap.size, 0, none⟩) ∧ s3 = .pointer (some ⟨w.heap.size + 1, 0, none⟩) ∧ s4 = .bool false ∧ Below w.heap.size w wc ∧ QS #[.string x_s, .bool x_hp, .string x_p, .int .i32 x_px, .string x_an, .bool x_ht, .bool x_ha, .int .i64 x_ta, .int .i64 x_aa, .bool x_hn, .int .i64 x_no] w.heap.size wc ∧ QS #[.string y_s, .bool y_hp, .string y_p, .int .i32 y_px, .string y_an, .bool x_ht, .bool x_ha, .int .i64 y_ta, .int .i64 y_aa, .bool y_hn, .int .i64 y_no] (w.heap.size + 1) wc)
  case first =>
    go_wp2_with fail
    go_meet
    case rel =>
      refine ⟨rfl, rfl, rfl, ((Below.refl _ _).alloc (Nat.le_refl _) _).alloc (by simp) _, (QS.made w _ _).alloc _, ?_⟩
      have := QS.made (w.alloc (.cells #[.string x_s, .bool x_hp, .string x_p, .int .i32 x_px, .string x_an, .bool x_ht, .bool x_ha, .int .i64 x_ta, .int .i64 x_aa, .bool x_hn, .int .i64 x_no] 26)) #[.string y_s, .bool y_hp, .string y_p, .int .i32 y_px, .string y_an, .bool x_ht, .bool x_ha, .int .i64 y_ta, .int .i64 y_aa, .bool y_hn, .int .i64 y_no] 26
      simp only [World.size_alloc] at this
      exact this
  case rest =>
  obtain ⟨rfl, rfl, rfl, hbw, hA, hB⟩ := hcut
  obtain ⟨qa, qaf, qal⟩ := QS.out hA
  obtain ⟨qb, qbf, qbl⟩ := QS.out hB
  cases x_ht
  all_goals cases x_ha
  · as_aux_lemma =>
      skip
      skip
      clear h3 h4
      go_upto_region 7 with (first
        | (go_at_call 10; refine (sameTag_yes _ _ _ _ _ _ _ _ _ _ _ _ _ _ _ _ _ _ _ (by assumption)).mono ?_; rintro e w5 ⟨rfl, hb⟩; have hbw := hbw.trans (hb.mono hbw.size); have hA := QS.keep hb hA; have hB := QS.keep hb hB; obtain ⟨qa, qaf, qal⟩ := QS.out hA; obtain ⟨qb, qbf, qbl⟩ := QS.out hB)
        | (go_at_call 11; refine (sameAnchor_yes _ _ _ _ _ _ _ _ _ _ _ _ _ _ _ _ _ _ _ _ (by assumption)).mono ?_; rintro e w5 ⟨rfl, hb⟩; have hbw := hbw.trans (hb.mono hbw.size); have hA := QS.keep hb hA; have hB := QS.keep hb hB; obtain ⟨qa, qaf, qal⟩ := QS.out hA; obtain ⟨qb, qbf, qbl⟩ := QS.out hB))
      go_region_with (first
        | (go_at_call 13; refine (set_calls _ _ _ _ _ _ _ _ _ _ _ _).mono ?_; rintro e w5 ⟨rfl, hb⟩; (first | (have hbw := hbw.trans (hb.mono hbw.size); have hA := QS.keep hb hA; have hB := QS.keep hb hB) | (have hb := below_of_drew hb; have hbw := hbw.trans (hb.mono hbw.size); have hA := QS.keep hb hA; have hB := QS.keep hb hB)); obtain ⟨qa, qaf, qal⟩ := QS.out hA; obtain ⟨qb, qbf, qbl⟩ := QS.out hB))
      all_goals go_upto_region 12 with fail
      all_goals go_wp2_with fail
      all_goals go_ret
      all_goals exact ⟨rfl, hbw⟩
  · as_aux_lemma =>
      skip
      obtain ⟨rfl, rfl, rfl, hnn⟩ := h4 rfl
      clear h3 h4
      go_upto_region 7 with (first
        | (go_at_call 10; refine (sameTag_yes _ _ _ _ _ _ _ _ _ _ _ _ _ _ _ _ _ _ _ (by assumption)).mono ?_; rintro e w5 ⟨rfl, hb⟩; have hbw := hbw.trans (hb.mono hbw.size); have hA := QS.keep hb hA; have hB := QS.keep hb hB; obtain ⟨qa, qaf, qal⟩ := QS.out hA; obtain ⟨qb, qbf, qbl⟩ := QS.out hB)
        | (go_at_call 11; refine (sameAnchor_yes _ _ _ _ _ _ _ _ _ _ _ _ _ _ _ _ _ _ _ _ (by assumption)).mono ?_; rintro e w5 ⟨rfl, hb⟩; have hbw := hbw.trans (hb.mono hbw.size); have hA := QS.keep hb hA; have hB := QS.keep hb hB; obtain ⟨qa, qaf, qal⟩ := QS.out hA; obtain ⟨qb, qbf, qbl⟩ := QS.out hB))
      go_region_with (first
        | (go_at_call 13; refine (set_calls _ _ _ _ _ _ _ _ _ _ _ _).mono ?_; rintro e w5 ⟨rfl, hb⟩; (first | (have hbw := hbw.trans (hb.mono hbw.size); have hA := QS.keep hb hA; have hB := QS.keep hb hB) | (have hb := below_of_drew hb; have hbw := hbw.trans (hb.mono hbw.size); have hA := QS.keep hb hA; have hB := QS.keep hb hB)); obtain ⟨qa, qaf, qal⟩ := QS.out hA; obtain ⟨qb, qbf, qbl⟩ := QS.out hB))
      all_goals go_upto_region 10 with fail
      all_goals
        have ea : atOf false true x_ta x_aa = x_aa := by simp [atOf]
        have eb : atOf false true y_ta x_aa = x_aa := by simp [atOf]
        go_region_with (first
        | (go_at_call 14; refine (at_calls _ _ _ _ _ _ _ _ _ _ _ _).mono ?_; rintro e w5 ⟨rfl, hb⟩; (first | (have hbw := hbw.trans (hb.mono hbw.size); have hA := QS.keep hb hA; have hB := QS.keep hb hB) | (have hb := below_of_drew hb; have hbw := hbw.trans (hb.mono hbw.size); have hA := QS.keep hb hA; have hB := QS.keep hb hB)); obtain ⟨qa, qaf, qal⟩ := QS.out hA; obtain ⟨qb, qbf, qbl⟩ := QS.out hB))
      all_goals go_wp2_with fail
      all_goals go_ret
      all_goals exact ⟨rfl, hbw⟩
  · as_aux_lemma =>
      obtain ⟨rfl, rfl, rfl, rfl, hpp⟩ := h3 rfl
      skip
      clear h3 h4
      go_upto_region 7 with (first
        | (go_at_call 10; refine (sameTag_yes _ _ _ _ _ _ _ _ _ _ _ _ _ _ _ _ _ _ _ (by assumption)).mono ?_; rintro e w5 ⟨rfl, hb⟩; have hbw := hbw.trans (hb.mono hbw.size); have hA := QS.keep hb hA; have hB := QS.keep hb hB; obtain ⟨qa, qaf, qal⟩ := QS.out hA; obtain ⟨qb, qbf, qbl⟩ := QS.out hB)
        | (go_at_call 11; refine (sameAnchor_yes _ _ _ _ _ _ _ _ _ _ _ _ _ _ _ _ _ _ _ _ (by assumption)).mono ?_; rintro e w5 ⟨rfl, hb⟩; have hbw := hbw.trans (hb.mono hbw.size); have hA := QS.keep hb hA; have hB := QS.keep hb hB; obtain ⟨qa, qaf, qal⟩ := QS.out hA; obtain ⟨qb, qbf, qbl⟩ := QS.out hB))
      go_region_with (first
        | (go_at_call 13; refine (set_calls _ _ _ _ _ _ _ _ _ _ _ _).mono ?_; rintro e w5 ⟨rfl, hb⟩; (first | (have hbw := hbw.trans (hb.mono hbw.size); have hA := QS.keep hb hA; have hB := QS.keep hb hB) | (have hb := below_of_drew hb; have hbw := hbw.trans (hb.mono hbw.size); have hA := QS.keep hb hA; have hB := QS.keep hb hB)); obtain ⟨qa, qaf, qal⟩ := QS.out hA; obtain ⟨qb, qbf, qbl⟩ := QS.out hB))
      all_goals go_upto_region 10 with fail
      all_goals
        have ea : atOf true false x_ta x_aa = x_ta := by simp [atOf]
        have eb : atOf true false x_ta y_aa = x_ta := by simp [atOf]
        go_region_with (first
        | (go_at_call 14; refine (at_calls _ _ _ _ _ _ _ _ _ _ _ _).mono ?_; rintro e w5 ⟨rfl, hb⟩; (first | (have hbw := hbw.trans (hb.mono hbw.size); have hA := QS.keep hb hA; have hB := QS.keep hb hB) | (have hb := below_of_drew hb; have hbw := hbw.trans (hb.mono hbw.size); have hA := QS.keep hb hA; have hB := QS.keep hb hB)); obtain ⟨qa, qaf, qal⟩ := QS.out hA; obtain ⟨qb, qbf, qbl⟩ := QS.out hB))
      all_goals go_wp2_with fail
      all_goals go_ret
      all_goals exact ⟨rfl, hbw⟩
  · as_aux_lemma =>
      obtain ⟨rfl, rfl, rfl, rfl, hpp⟩ := h3 rfl
      obtain ⟨rfl, rfl, rfl, hnn⟩ := h4 rfl
      clear h3 h4
      go_upto_region 7 with (first
        | (go_at_call 10; refine (sameTag_yes _ _ _ _ _ _ _ _ _ _ _ _ _ _ _ _ _ _ _ (by assumption)).mono ?_; rintro e w5 ⟨rfl, hb⟩; have hbw := hbw.trans (hb.mono hbw.size); have hA := QS.keep hb hA; have hB := QS.keep hb hB; obtain ⟨qa, qaf, qal⟩ := QS.out hA; obtain ⟨qb, qbf, qbl⟩ := QS.out hB)
        | (go_at_call 11; refine (sameAnchor_yes _ _ _ _ _ _ _ _ _ _ _ _ _ _ _ _ _ _ _ _ (by assumption)).mono ?_; rintro e w5 ⟨rfl, hb⟩; have hbw := hbw.trans (hb.mono hbw.size); have hA := QS.keep hb hA; have hB := QS.keep hb hB; obtain ⟨qa, qaf, qal⟩ := QS.out hA; obtain ⟨qb, qbf, qbl⟩ := QS.out hB))
      go_region_with (first
        | (go_at_call 13; refine (set_calls _ _ _ _ _ _ _ _ _ _ _ _).mono ?_; rintro e w5 ⟨rfl, hb⟩; (first | (have hbw := hbw.trans (hb.mono hbw.size); have hA := QS.keep hb hA; have hB := QS.keep hb hB) | (have hb := below_of_drew hb; have hbw := hbw.trans (hb.mono hbw.size); have hA := QS.keep hb hA; have hB := QS.keep hb hB)); obtain ⟨qa, qaf, qal⟩ := QS.out hA; obtain ⟨qb, qbf, qbl⟩ := QS.out hB))
      all_goals go_upto_region 10 with fail
      all_goals
        go_region_with (first
        | (go_at_call 14; refine (at_calls _ _ _ _ _ _ _ _ _ _ _ _).mono ?_; rintro e w5 ⟨rfl, hb⟩; (first | (have hbw := hbw.trans (hb.mono hbw.size); have hA := QS.keep hb hA; have hB := QS.keep hb hB) | (have hb := below_of_drew hb; have hbw := hbw.trans (hb.mono hbw.size); have hA := QS.keep hb hA; have hB := QS.keep hb hB)); obtain ⟨qa, qaf, qal⟩ := QS.out hA; obtain ⟨qb, qbf, qbl⟩ := QS.out hB))
      all_goals go_wp2_with fail
      all_goals go_ret
      all_goals exact ⟨rfl, hbw⟩
end Go.Proofs.Qxb6002391a

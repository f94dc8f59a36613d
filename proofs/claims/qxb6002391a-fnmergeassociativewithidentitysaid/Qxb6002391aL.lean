import Derived.Test.Qxb6002391aK2
import Derived.Deep.RegionHeld
namespace Go.Proofs.Qxb6002391a
open Go.RowKit
set_option linter.unusedSimpArgs false
set_option linter.unusedVariables false

set_option maxRecDepth 100000 in
set_option maxHeartbeats 100000000 in
theorem assoc_walk (a b c : Zf) (w : World)
    (k0 : a.s.size ≤ maxLen) (k1 : a.p.size ≤ maxLen) (k2 : a.an.size ≤ maxLen) (k3 : b.s.size ≤ maxLen) (k4 : b.p.size ≤ maxLen) (k5 : b.an.size ≤ maxLen) (k6 : c.s.size ≤ maxLen) (k7 : c.p.size ≤ maxLen) (k8 : c.an.size ≤ maxLen) :
    Calls Try.prog 5 #[(zv a.s a.hp a.p a.px a.an a.ht a.ha a.ta a.aa a.hn a.no), (zv b.s b.hp b.p b.px b.an b.ht b.ha b.ta b.aa b.hn b.no), (zv c.s c.hp c.p c.px c.an c.ht c.ha c.ta c.aa c.hn c.no)] w fun e w' => e = .returned (.bool true) ∧ Below w.heap.size w w' := by
  go_enter Try.func5, Try.ntmps5
  go_upto_region 0 with fail
  go_cut [3, 4, 5, 6] from 7 (fun s3 s4 s5 s6 wc => s3 = .pointer (some ⟨w.heap.size, 0, none⟩) ∧ s4 = .pointer (some ⟨w.heap.size + 1, 0, none⟩) ∧ s5 = .pointer (some ⟨w.heap.size + 1 + 1, 0, none⟩) ∧ s6 = .bool false ∧ Below w.heap.size w wc ∧ QS #[.string a.s, .bool a.hp, .string a.p, .int .i32 a.px, .string a.an, .bool a.ht, .bool a.ha, .int .i64 a.ta, .int .i64 a.aa, .bool a.hn, .int .i64 a.no] w.heap.size wc ∧ QS #[.string b.s, .bool b.hp, .string b.p, .int .i32 b.px, .string b.an, .bool b.ht, .bool b.ha, .int .i64 b.ta, .int .i64 b.aa, .bool b.hn, .int .i64 b.no] (w.heap.size + 1) wc ∧ QS #[.string c.s, .bool c.hp, .string c.p, .int .i32 c.px, .string c.an, .bool c.ht, .bool c.ha, .int .i64 c.ta, .int .i64 c.aa, .bool c.hn, .int .i64 c.no] (w.heap.size + 1 + 1) wc)
  case first =>
    go_wp2_with fail
    go_meet
    case rel =>
      refine ⟨rfl, rfl, rfl, rfl, (((Below.refl _ _).alloc (Nat.le_refl _) _).alloc (by simp) _).alloc (by simp; omega) _, ((QS.made w _ _).alloc _).alloc _, ?_, ?_⟩
      · have := (QS.made (w.alloc (.cells #[.string a.s, .bool a.hp, .string a.p, .int .i32 a.px, .string a.an, .bool a.ht, .bool a.ha, .int .i64 a.ta, .int .i64 a.aa, .bool a.hn, .int .i64 a.no] 23)) #[.string b.s, .bool b.hp, .string b.p, .int .i32 b.px, .string b.an, .bool b.ht, .bool b.ha, .int .i64 b.ta, .int .i64 b.aa, .bool b.hn, .int .i64 b.no] 23).alloc (.cells #[.string c.s, .bool c.hp, .string c.p, .int .i32 c.px, .string c.an, .bool c.ht, .bool c.ha, .int .i64 c.ta, .int .i64 c.aa, .bool c.hn, .int .i64 c.no] 23)
        simp only [World.size_alloc] at this
        exact this
      · have := QS.made ((w.alloc (.cells #[.string a.s, .bool a.hp, .string a.p, .int .i32 a.px, .string a.an, .bool a.ht, .bool a.ha, .int .i64 a.ta, .int .i64 a.aa, .bool a.hn, .int .i64 a.no] 23)).alloc (.cells #[.string b.s, .bool b.hp, .string b.p, .int .i32 b.px, .string b.an, .bool b.ht, .bool b.ha, .int .i64 b.ta, .int .i64 b.aa, .bool b.hn, .int .i64 b.no] 23)) #[.string c.s, .bool c.hp, .string c.p, .int .i32 c.px, .string c.an, .bool c.ht, .bool c.ha, .int .i64 c.ta, .int .i64 c.aa, .bool c.hn, .int .i64 c.no] 23
        simp only [World.size_alloc] at this
        exact this
  case rest =>
  obtain ⟨rfl, rfl, rfl, rfl, hbw, hA, hB, hC⟩ := hcut
  obtain ⟨qA, qAf, qAl⟩ := QS.out hA; obtain ⟨qB, qBf, qBl⟩ := QS.out hB; obtain ⟨qC, qCf, qCl⟩ := QS.out hC
  go_wp2_with fail
  refine (zzb17_any a.s a.hp a.p a.px a.an a.ht a.ha a.ta a.aa a.hn a.no b.s b.hp b.p b.px b.an b.ht b.ha b.ta b.aa b.hn b.no c.s c.hp c.p c.px c.an c.ht c.ha c.ta c.aa c.hn c.no _ k0 k1 k2 k3 k4 k5 k6 k7 k8).mono ?_
  rintro e w1 ⟨⟨bo, rfl, hbo⟩, hb⟩
  replace hbw := hbw.trans (hb.mono hbw.size); replace hA := QS.keep hb hA; replace hB := QS.keep hb hB; replace hC := QS.keep hb hC
  clear qA qAf qAl qB qBf qBl qC qCf qCl hb
  obtain ⟨qA, qAf, qAl⟩ := QS.out hA; obtain ⟨qB, qBf, qBl⟩ := QS.out hB; obtain ⟨qC, qCf, qCl⟩ := QS.out hC
  cases bo with
  | false =>
    go_wp2
    go_ret
    exact ⟨rfl, hbw⟩
  | true =>
  have hsum := hbo rfl
  clear hbo k0 k1 k2 k3 k4 k5 k6 k7 k8
  have hd1 : decide ((1048576 : Int) < (a.s.size : Int) + (a.p.size : Int) + (a.an.size : Int)) = false := by simp; omega
  have hd2 : decide ((1048576 : Int) < (b.s.size : Int) + (b.p.size : Int) + (b.an.size : Int)) = false := by simp; omega
  have hd3 : decide ((1048576 : Int) < (c.s.size : Int) + (c.p.size : Int) + (c.an.size : Int)) = false := by simp; omega
  have hw1 : IntKind.i64.wrap ((a.s.size : Int) + (a.p.size : Int) + (a.an.size : Int) + ((b.s.size : Int) + (b.p.size : Int) + (b.an.size : Int))) = (a.s.size : Int) + (a.p.size : Int) + (a.an.size : Int) + ((b.s.size : Int) + (b.p.size : Int) + (b.an.size : Int)) := IntWalk.i64_in _ ⟨by omega, by omega⟩
  have hd4 : decide ((1048576 : Int) < (a.s.size : Int) + (a.p.size : Int) + (a.an.size : Int) + ((b.s.size : Int) + (b.p.size : Int) + (b.an.size : Int)) + ((c.s.size : Int) + (c.p.size : Int) + (c.an.size : Int))) = false := by simp; omega
  have HD : Hid (decide ((1048576 : Int) < IntKind.i64.wrap ((a.s.size : Int) + (a.p.size : Int) + (a.an.size : Int) + ((b.s.size : Int) + (b.p.size : Int) + (b.an.size : Int)) + ((c.s.size : Int) + (c.p.size : Int) + (c.an.size : Int)))) = false) := by
    show decide _ = false
    rw [IntWalk.i64_in _ ⟨by omega, by omega⟩]
    exact hd4
  go_upto_region 5 with (first | (go_at_call 7; refine (bytes_calls _ _ _ _ _ _ _ _ _ _ _ _ ?_ ?_ ?_).mono ?_; omega; omega; omega; rintro e w' ⟨rfl, hb⟩; (first | (have hbw := hbw.trans (hb.mono hbw.size); have hA := QS.keep hb hA; have hB := QS.keep hb hB; have hC := QS.keep hb hC) | (have hb := below_of_drew hb; have hbw := hbw.trans (hb.mono hbw.size); have hA := QS.keep hb hA; have hB := QS.keep hb hB; have hC := QS.keep hb hC)); obtain ⟨qA, qAf, qAl⟩ := QS.out hA; obtain ⟨qB, qBf, qBl⟩ := QS.out hB; obtain ⟨qC, qCf, qCl⟩ := QS.out hC))
  go_cut [52] from 7 (fun s52 wd => s52 = .bool false ∧ Below w.heap.size w wd ∧ QS #[.string a.s, .bool a.hp, .string a.p, .int .i32 a.px, .string a.an, .bool a.ht, .bool a.ha, .int .i64 a.ta, .int .i64 a.aa, .bool a.hn, .int .i64 a.no] w.heap.size wd ∧ QS #[.string b.s, .bool b.hp, .string b.p, .int .i32 b.px, .string b.an, .bool b.ht, .bool b.ha, .int .i64 b.ta, .int .i64 b.aa, .bool b.hn, .int .i64 b.no] (w.heap.size + 1) wd ∧ QS #[.string c.s, .bool c.hp, .string c.p, .int .i32 c.px, .string c.an, .bool c.ht, .bool c.ha, .int .i64 c.ta, .int .i64 c.aa, .bool c.hn, .int .i64 c.no] (w.heap.size + 1 + 1) wd)
  case first =>
    go_region_with (first | (go_at_call 7; refine (bytes_calls _ _ _ _ _ _ _ _ _ _ _ _ ?_ ?_ ?_).mono ?_; omega; omega; omega; rintro e w' ⟨rfl, hb⟩; (first | (have hbw := hbw.trans (hb.mono hbw.size); have hA := QS.keep hb hA; have hB := QS.keep hb hB; have hC := QS.keep hb hC) | (have hb := below_of_drew hb; have hbw := hbw.trans (hb.mono hbw.size); have hA := QS.keep hb hA; have hB := QS.keep hb hB; have hC := QS.keep hb hC)); obtain ⟨qA, qAf, qAl⟩ := QS.out hA; obtain ⟨qB, qBf, qBl⟩ := QS.out hB; obtain ⟨qC, qCf, qCl⟩ := QS.out hC))
    all_goals
      go_wp2_with fail
      go_meet
      case rel => exact ⟨by first | rfl | (rw [HD.out]) | (rw [hd4]), hbw, hA, hB, hC⟩
  case rest =>
  clear hbw hA hB hC
  obtain ⟨rfl, hbw, hA, hB, hC⟩ := hcut
  clear hd1 hd2 hd3 hd4 hw1 HD hsum
  obtain ⟨qA, qAf, qAl⟩ := QS.out hA
  go_wp2_with fail
  refine (toZZ_calls a.s a.hp a.p a.px a.an a.ht a.ha a.ta a.aa a.hn a.no _).mono ?_
  rintro e wZA ⟨rfl, hb⟩
  clear qA qAf qAl
  clear hA
  replace hbw := hbw.trans (hb.mono hbw.size)
  replace hB := QS.keep hb hB
  replace hC := QS.keep hb hC
  clear hb
  replace hbw := hbw.alloc hbw.size (.cells #[.string a.s, .bool a.hp, .string a.p, .int .i32 a.px, .string a.an, .bool a.ht, .bool a.ha, .int .i64 a.ta, .int .i64 a.aa, .bool a.hn, .int .i64 a.no] 26)
  have lBZA := hB.2.2
  replace hB := hB.alloc (.cells #[.string a.s, .bool a.hp, .string a.p, .int .i32 a.px, .string a.an, .bool a.ht, .bool a.ha, .int .i64 a.ta, .int .i64 a.aa, .bool a.hn, .int .i64 a.no] 26)
  have lCZA := hC.2.2
  replace hC := hC.alloc (.cells #[.string a.s, .bool a.hp, .string a.p, .int .i32 a.px, .string a.an, .bool a.ht, .bool a.ha, .int .i64 a.ta, .int .i64 a.aa, .bool a.hn, .int .i64 a.no] 26)
  have hZA := QS.made wZA #[.string a.s, .bool a.hp, .string a.p, .int .i32 a.px, .string a.an, .bool a.ht, .bool a.ha, .int .i64 a.ta, .int .i64 a.aa, .bool a.hn, .int .i64 a.no] 26
  go_upto_region 8 with fail
  skip
  generalize wZA.alloc (.cells #[.string a.s, .bool a.hp, .string a.p, .int .i32 a.px, .string a.an, .bool a.ht, .bool a.ha, .int .i64 a.ta, .int .i64 a.aa, .bool a.hn, .int .i64 a.no] 26) = v1ZA at hbw hB hC hZA ⊢
  obtain ⟨qB, qBf, qBl⟩ := QS.out hB
  go_wp2_with fail
  refine (toZZ_calls b.s b.hp b.p b.px b.an b.ht b.ha b.ta b.aa b.hn b.no _).mono ?_
  rintro e wZB ⟨rfl, hb⟩
  clear qB qBf qBl
  clear hB
  replace hbw := hbw.trans (hb.mono hbw.size)
  replace hC := QS.keep hb hC
  replace hZA := QS.keep hb hZA
  clear hb
  replace hbw := hbw.alloc hbw.size (.cells #[.string b.s, .bool b.hp, .string b.p, .int .i32 b.px, .string b.an, .bool b.ht, .bool b.ha, .int .i64 b.ta, .int .i64 b.aa, .bool b.hn, .int .i64 b.no] 26)
  have lCZB := hC.2.2
  replace hC := hC.alloc (.cells #[.string b.s, .bool b.hp, .string b.p, .int .i32 b.px, .string b.an, .bool b.ht, .bool b.ha, .int .i64 b.ta, .int .i64 b.aa, .bool b.hn, .int .i64 b.no] 26)
  have lZAZB := hZA.2.2
  replace hZA := hZA.alloc (.cells #[.string b.s, .bool b.hp, .string b.p, .int .i32 b.px, .string b.an, .bool b.ht, .bool b.ha, .int .i64 b.ta, .int .i64 b.aa, .bool b.hn, .int .i64 b.no] 26)
  have hZB := QS.made wZB #[.string b.s, .bool b.hp, .string b.p, .int .i32 b.px, .string b.an, .bool b.ht, .bool b.ha, .int .i64 b.ta, .int .i64 b.aa, .bool b.hn, .int .i64 b.no] 26
  go_upto_region 9 with fail
  skip
  generalize wZB.alloc (.cells #[.string b.s, .bool b.hp, .string b.p, .int .i32 b.px, .string b.an, .bool b.ht, .bool b.ha, .int .i64 b.ta, .int .i64 b.aa, .bool b.hn, .int .i64 b.no] 26) = v2ZB at hbw hC hZA hZB ⊢
  obtain ⟨qC, qCf, qCl⟩ := QS.out hC
  go_wp2_with fail
  refine (toZZ_calls c.s c.hp c.p c.px c.an c.ht c.ha c.ta c.aa c.hn c.no _).mono ?_
  rintro e wZC ⟨rfl, hb⟩
  clear qC qCf qCl
  clear hC
  replace hbw := hbw.trans (hb.mono hbw.size)
  replace hZA := QS.keep hb hZA
  replace hZB := QS.keep hb hZB
  clear hb
  replace hbw := hbw.alloc hbw.size (.cells #[.string c.s, .bool c.hp, .string c.p, .int .i32 c.px, .string c.an, .bool c.ht, .bool c.ha, .int .i64 c.ta, .int .i64 c.aa, .bool c.hn, .int .i64 c.no] 26)
  have lZAZC := hZA.2.2
  replace hZA := hZA.alloc (.cells #[.string c.s, .bool c.hp, .string c.p, .int .i32 c.px, .string c.an, .bool c.ht, .bool c.ha, .int .i64 c.ta, .int .i64 c.aa, .bool c.hn, .int .i64 c.no] 26)
  have lZBZC := hZB.2.2
  replace hZB := hZB.alloc (.cells #[.string c.s, .bool c.hp, .string c.p, .int .i32 c.px, .string c.an, .bool c.ht, .bool c.ha, .int .i64 c.ta, .int .i64 c.aa, .bool c.hn, .int .i64 c.no] 26)
  have hZC := QS.made wZC #[.string c.s, .bool c.hp, .string c.p, .int .i32 c.px, .string c.an, .bool c.ht, .bool c.ha, .int .i64 c.ta, .int .i64 c.aa, .bool c.hn, .int .i64 c.no] 26
  go_upto_region 10 with fail
  skip
  generalize wZC.alloc (.cells #[.string c.s, .bool c.hp, .string c.p, .int .i32 c.px, .string c.an, .bool c.ht, .bool c.ha, .int .i64 c.ta, .int .i64 c.aa, .bool c.hn, .int .i64 c.no] 26) = v3ZC at hbw hZA hZB hZC ⊢
  replace hbw := hbw.alloc hbw.size (.cells #[.string ⟨#[]⟩, .bool false, .string ⟨#[]⟩, .int .i32 0, .string ⟨#[]⟩, .bool false, .bool false, .int .i64 0, .int .i64 0, .bool false, .int .i64 0] 26)
  have lZAZ := hZA.2.2
  replace hZA := hZA.alloc (.cells #[.string ⟨#[]⟩, .bool false, .string ⟨#[]⟩, .int .i32 0, .string ⟨#[]⟩, .bool false, .bool false, .int .i64 0, .int .i64 0, .bool false, .int .i64 0] 26)
  have lZBZ := hZB.2.2
  replace hZB := hZB.alloc (.cells #[.string ⟨#[]⟩, .bool false, .string ⟨#[]⟩, .int .i32 0, .string ⟨#[]⟩, .bool false, .bool false, .int .i64 0, .int .i64 0, .bool false, .int .i64 0] 26)
  have lZCZ := hZC.2.2
  replace hZC := hZC.alloc (.cells #[.string ⟨#[]⟩, .bool false, .string ⟨#[]⟩, .int .i32 0, .string ⟨#[]⟩, .bool false, .bool false, .int .i64 0, .int .i64 0, .bool false, .int .i64 0] 26)
  have hZ := QS.made v3ZC #[.string ⟨#[]⟩, .bool false, .string ⟨#[]⟩, .int .i32 0, .string ⟨#[]⟩, .bool false, .bool false, .int .i64 0, .int .i64 0, .bool false, .int .i64 0] 26
  go_upto_region 11 with fail
  generalize v3ZC.alloc (.cells #[.string ⟨#[]⟩, .bool false, .string ⟨#[]⟩, .int .i32 0, .string ⟨#[]⟩, .bool false, .bool false, .int .i64 0, .int .i64 0, .bool false, .int .i64 0] 26) = v4Z at hbw hZA hZB hZC hZ ⊢
  obtain ⟨qZ, qZf, qZl⟩ := QS.out hZ
  obtain ⟨qZA, qZAf, qZAl⟩ := QS.out hZA
  go_wp2_with fail
  refine (mergeYes z0 a _ (ok_zero a).1).mono ?_
  rintro e wL1 ⟨mL1, rfl, hmL1, hb⟩
  clear qZ qZf qZl qZA qZAf qZAl
  replace hbw := hbw.trans (hb.mono hbw.size)
  replace hZA := QS.keep hb hZA
  replace hZB := QS.keep hb hZB
  replace hZC := QS.keep hb hZC
  replace hZ := QS.keep hb hZ
  clear hb
  replace hbw := hbw.alloc hbw.size (.cells #[.string mL1.s, .bool mL1.hp, .string mL1.p, .int .i32 mL1.px, .string mL1.an, .bool mL1.ht, .bool mL1.ha, .int .i64 mL1.ta, .int .i64 mL1.aa, .bool mL1.hn, .int .i64 mL1.no] 26)
  have lZAL1 := hZA.2.2
  replace hZA := hZA.alloc (.cells #[.string mL1.s, .bool mL1.hp, .string mL1.p, .int .i32 mL1.px, .string mL1.an, .bool mL1.ht, .bool mL1.ha, .int .i64 mL1.ta, .int .i64 mL1.aa, .bool mL1.hn, .int .i64 mL1.no] 26)
  have lZBL1 := hZB.2.2
  replace hZB := hZB.alloc (.cells #[.string mL1.s, .bool mL1.hp, .string mL1.p, .int .i32 mL1.px, .string mL1.an, .bool mL1.ht, .bool mL1.ha, .int .i64 mL1.ta, .int .i64 mL1.aa, .bool mL1.hn, .int .i64 mL1.no] 26)
  have lZCL1 := hZC.2.2
  replace hZC := hZC.alloc (.cells #[.string mL1.s, .bool mL1.hp, .string mL1.p, .int .i32 mL1.px, .string mL1.an, .bool mL1.ht, .bool mL1.ha, .int .i64 mL1.ta, .int .i64 mL1.aa, .bool mL1.hn, .int .i64 mL1.no] 26)
  have lZL1 := hZ.2.2
  replace hZ := hZ.alloc (.cells #[.string mL1.s, .bool mL1.hp, .string mL1.p, .int .i32 mL1.px, .string mL1.an, .bool mL1.ht, .bool mL1.ha, .int .i64 mL1.ta, .int .i64 mL1.aa, .bool mL1.hn, .int .i64 mL1.no] 26)
  have hL1 := QS.made wL1 #[.string mL1.s, .bool mL1.hp, .string mL1.p, .int .i32 mL1.px, .string mL1.an, .bool mL1.ht, .bool mL1.ha, .int .i64 mL1.ta, .int .i64 mL1.aa, .bool mL1.hn, .int .i64 mL1.no] 26
  go_upto_region 12 with fail
  skip
  generalize wL1.alloc (.cells #[.string mL1.s, .bool mL1.hp, .string mL1.p, .int .i32 mL1.px, .string mL1.an, .bool mL1.ht, .bool mL1.ha, .int .i64 mL1.ta, .int .i64 mL1.aa, .bool mL1.hn, .int .i64 mL1.no] 26) = v5L1 at hbw hZA hZB hZC hZ hL1 ⊢
  obtain ⟨qL1, qL1f, qL1l⟩ := QS.out hL1
  obtain ⟨qZA, qZAf, qZAl⟩ := QS.out hZA
  go_wp2_with fail
  refine (sameYes mL1 a _ (by have e : mL1 = mg z0 a := hmL1; rw [e]; exact sm_left a)).mono ?_
  rintro e wS1 ⟨rfl, hb⟩
  clear qL1 qL1f qL1l qZA qZAf qZAl
  replace hbw := hbw.trans (hb.mono hbw.size)
  replace hZA := QS.keep hb hZA
  replace hZB := QS.keep hb hZB
  replace hZC := QS.keep hb hZC
  replace hZ := QS.keep hb hZ
  replace hL1 := QS.keep hb hL1
  clear hb
  go_upto_region 14 with fail
  clear hL1
  obtain ⟨qZ, qZf, qZl⟩ := QS.out hZ
  obtain ⟨qZA, qZAf, qZAl⟩ := QS.out hZA
  go_wp2_with fail
  refine (mergeYes a z0 _ (ok_zero a).2).mono ?_
  rintro e wR1 ⟨mR1, rfl, hmR1, hb⟩
  clear qZ qZf qZl qZA qZAf qZAl
  replace hbw := hbw.trans (hb.mono hbw.size)
  replace hZA := QS.keep hb hZA
  replace hZB := QS.keep hb hZB
  replace hZC := QS.keep hb hZC
  replace hZ := QS.keep hb hZ
  clear hb
  replace hbw := hbw.alloc hbw.size (.cells #[.string mR1.s, .bool mR1.hp, .string mR1.p, .int .i32 mR1.px, .string mR1.an, .bool mR1.ht, .bool mR1.ha, .int .i64 mR1.ta, .int .i64 mR1.aa, .bool mR1.hn, .int .i64 mR1.no] 26)
  have lZAR1 := hZA.2.2
  replace hZA := hZA.alloc (.cells #[.string mR1.s, .bool mR1.hp, .string mR1.p, .int .i32 mR1.px, .string mR1.an, .bool mR1.ht, .bool mR1.ha, .int .i64 mR1.ta, .int .i64 mR1.aa, .bool mR1.hn, .int .i64 mR1.no] 26)
  have lZBR1 := hZB.2.2
  replace hZB := hZB.alloc (.cells #[.string mR1.s, .bool mR1.hp, .string mR1.p, .int .i32 mR1.px, .string mR1.an, .bool mR1.ht, .bool mR1.ha, .int .i64 mR1.ta, .int .i64 mR1.aa, .bool mR1.hn, .int .i64 mR1.no] 26)
  have lZCR1 := hZC.2.2
  replace hZC := hZC.alloc (.cells #[.string mR1.s, .bool mR1.hp, .string mR1.p, .int .i32 mR1.px, .string mR1.an, .bool mR1.ht, .bool mR1.ha, .int .i64 mR1.ta, .int .i64 mR1.aa, .bool mR1.hn, .int .i64 mR1.no] 26)
  have lZR1 := hZ.2.2
  replace hZ := hZ.alloc (.cells #[.string mR1.s, .bool mR1.hp, .string mR1.p, .int .i32 mR1.px, .string mR1.an, .bool mR1.ht, .bool mR1.ha, .int .i64 mR1.ta, .int .i64 mR1.aa, .bool mR1.hn, .int .i64 mR1.no] 26)
  have hR1 := QS.made wR1 #[.string mR1.s, .bool mR1.hp, .string mR1.p, .int .i32 mR1.px, .string mR1.an, .bool mR1.ht, .bool mR1.ha, .int .i64 mR1.ta, .int .i64 mR1.aa, .bool mR1.hn, .int .i64 mR1.no] 26
  go_upto_region 15 with fail
  skip
  generalize wR1.alloc (.cells #[.string mR1.s, .bool mR1.hp, .string mR1.p, .int .i32 mR1.px, .string mR1.an, .bool mR1.ht, .bool mR1.ha, .int .i64 mR1.ta, .int .i64 mR1.aa, .bool mR1.hn, .int .i64 mR1.no] 26) = v6R1 at hbw hZA hZB hZC hZ hR1 ⊢
  obtain ⟨qR1, qR1f, qR1l⟩ := QS.out hR1
  obtain ⟨qZA, qZAf, qZAl⟩ := QS.out hZA
  go_wp2_with fail
  refine (sameYes mR1 a _ (by have e : mR1 = mg a z0 := hmR1; rw [e]; exact sm_right a)).mono ?_
  rintro e wS2 ⟨rfl, hb⟩
  clear qR1 qR1f qR1l qZA qZAf qZAl
  replace hbw := hbw.trans (hb.mono hbw.size)
  replace hZA := QS.keep hb hZA
  replace hZB := QS.keep hb hZB
  replace hZC := QS.keep hb hZC
  replace hZ := QS.keep hb hZ
  replace hR1 := QS.keep hb hR1
  clear hb
  go_upto_region 18 with fail
  clear hR1
  clear hZ
  have hbw0LF := hbw.size
  replace hbw := hbw.alloc hbw.size (.cells #[.string ⟨#[]⟩, .bool false, .string ⟨#[]⟩, .int .i32 0, .string ⟨#[]⟩, .bool false, .bool false, .int .i64 0, .int .i64 0, .bool false, .int .i64 0] 26)
  have lZALF := hZA.2.2
  replace hZA := hZA.alloc (.cells #[.string ⟨#[]⟩, .bool false, .string ⟨#[]⟩, .int .i32 0, .string ⟨#[]⟩, .bool false, .bool false, .int .i64 0, .int .i64 0, .bool false, .int .i64 0] 26)
  have lZBLF := hZB.2.2
  replace hZB := hZB.alloc (.cells #[.string ⟨#[]⟩, .bool false, .string ⟨#[]⟩, .int .i32 0, .string ⟨#[]⟩, .bool false, .bool false, .int .i64 0, .int .i64 0, .bool false, .int .i64 0] 26)
  have lZCLF := hZC.2.2
  replace hZC := hZC.alloc (.cells #[.string ⟨#[]⟩, .bool false, .string ⟨#[]⟩, .int .i32 0, .string ⟨#[]⟩, .bool false, .bool false, .int .i64 0, .int .i64 0, .bool false, .int .i64 0] 26)
  have hLF := QS.made wS2 #[.string ⟨#[]⟩, .bool false, .string ⟨#[]⟩, .int .i32 0, .string ⟨#[]⟩, .bool false, .bool false, .int .i64 0, .int .i64 0, .bool false, .int .i64 0] 26
  go_upto_region 19 with fail
  generalize hqLF : wS2.heap.size = qLFq at hLF hbw0LF lZALF lZBLF lZCLF ⊢
  generalize wS2.alloc (.cells #[.string ⟨#[]⟩, .bool false, .string ⟨#[]⟩, .int .i32 0, .string ⟨#[]⟩, .bool false, .bool false, .int .i64 0, .int .i64 0, .bool false, .int .i64 0] 26) = v7LF at hbw hZA hZB hZC hLF ⊢
  by_cases hab : Ok a b
  · by_cases habc : Ok (mg a b) c
    · as_aux_lemma =>
        have hbc := ok_bc a b c hab habc
        obtain ⟨qZA, qZAf, qZAl⟩ := QS.out hZA
        obtain ⟨qZB, qZBf, qZBl⟩ := QS.out hZB
        go_wp2_with fail
        refine (mergeYes a b _ hab).mono ?_
        rintro e wAB ⟨mAB, rfl, hmAB, hb⟩
        clear qZA qZAf qZAl qZB qZBf qZBl
        replace hbw := hbw.trans (hb.mono hbw.size)
        replace hZA := QS.keep hb hZA
        replace hZB := QS.keep hb hZB
        replace hZC := QS.keep hb hZC
        replace hLF := QS.keep hb hLF
        clear hb
        replace hbw := hbw.alloc hbw.size (.cells #[.string mAB.s, .bool mAB.hp, .string mAB.p, .int .i32 mAB.px, .string mAB.an, .bool mAB.ht, .bool mAB.ha, .int .i64 mAB.ta, .int .i64 mAB.aa, .bool mAB.hn, .int .i64 mAB.no] 26)
        have lZAAB := hZA.2.2
        replace hZA := hZA.alloc (.cells #[.string mAB.s, .bool mAB.hp, .string mAB.p, .int .i32 mAB.px, .string mAB.an, .bool mAB.ht, .bool mAB.ha, .int .i64 mAB.ta, .int .i64 mAB.aa, .bool mAB.hn, .int .i64 mAB.no] 26)
        have lZBAB := hZB.2.2
        replace hZB := hZB.alloc (.cells #[.string mAB.s, .bool mAB.hp, .string mAB.p, .int .i32 mAB.px, .string mAB.an, .bool mAB.ht, .bool mAB.ha, .int .i64 mAB.ta, .int .i64 mAB.aa, .bool mAB.hn, .int .i64 mAB.no] 26)
        have lZCAB := hZC.2.2
        replace hZC := hZC.alloc (.cells #[.string mAB.s, .bool mAB.hp, .string mAB.p, .int .i32 mAB.px, .string mAB.an, .bool mAB.ht, .bool mAB.ha, .int .i64 mAB.ta, .int .i64 mAB.aa, .bool mAB.hn, .int .i64 mAB.no] 26)
        have lLFAB := hLF.2.2
        replace hLF := hLF.alloc (.cells #[.string mAB.s, .bool mAB.hp, .string mAB.p, .int .i32 mAB.px, .string mAB.an, .bool mAB.ht, .bool mAB.ha, .int .i64 mAB.ta, .int .i64 mAB.aa, .bool mAB.hn, .int .i64 mAB.no] 26)
        have hAB := QS.made wAB #[.string mAB.s, .bool mAB.hp, .string mAB.p, .int .i32 mAB.px, .string mAB.an, .bool mAB.ht, .bool mAB.ha, .int .i64 mAB.ta, .int .i64 mAB.aa, .bool mAB.hn, .int .i64 mAB.no] 26
        go_upto_region 21 with fail
        skip
        generalize wAB.alloc (.cells #[.string mAB.s, .bool mAB.hp, .string mAB.p, .int .i32 mAB.px, .string mAB.an, .bool mAB.ht, .bool mAB.ha, .int .i64 mAB.ta, .int .i64 mAB.aa, .bool mAB.hn, .int .i64 mAB.no] 26) = v8AB at hbw hZA hZB hZC hLF hAB ⊢
        obtain ⟨qAB, qABf, qABl⟩ := QS.out hAB
        obtain ⟨qZC, qZCf, qZCl⟩ := QS.out hZC
        go_wp2_with fail
        refine (mergeYes mAB c _ (by have e : mAB = mg a b := hmAB; rw [e]; exact habc)).mono ?_
        rintro e wLL ⟨mLL, rfl, hmLL, hb⟩
        clear qAB qABf qABl qZC qZCf qZCl
        replace hbw := hbw.trans (hb.mono hbw.size)
        replace hZA := QS.keep hb hZA
        replace hZB := QS.keep hb hZB
        replace hZC := QS.keep hb hZC
        replace hLF := QS.keep hb hLF
        replace hAB := QS.keep hb hAB
        clear hb
        replace hbw := hbw.alloc hbw.size (.cells #[.string mLL.s, .bool mLL.hp, .string mLL.p, .int .i32 mLL.px, .string mLL.an, .bool mLL.ht, .bool mLL.ha, .int .i64 mLL.ta, .int .i64 mLL.aa, .bool mLL.hn, .int .i64 mLL.no] 26)
        have lZALL := hZA.2.2
        replace hZA := hZA.alloc (.cells #[.string mLL.s, .bool mLL.hp, .string mLL.p, .int .i32 mLL.px, .string mLL.an, .bool mLL.ht, .bool mLL.ha, .int .i64 mLL.ta, .int .i64 mLL.aa, .bool mLL.hn, .int .i64 mLL.no] 26)
        have lZBLL := hZB.2.2
        replace hZB := hZB.alloc (.cells #[.string mLL.s, .bool mLL.hp, .string mLL.p, .int .i32 mLL.px, .string mLL.an, .bool mLL.ht, .bool mLL.ha, .int .i64 mLL.ta, .int .i64 mLL.aa, .bool mLL.hn, .int .i64 mLL.no] 26)
        have lZCLL := hZC.2.2
        replace hZC := hZC.alloc (.cells #[.string mLL.s, .bool mLL.hp, .string mLL.p, .int .i32 mLL.px, .string mLL.an, .bool mLL.ht, .bool mLL.ha, .int .i64 mLL.ta, .int .i64 mLL.aa, .bool mLL.hn, .int .i64 mLL.no] 26)
        have lLFLL := hLF.2.2
        replace hLF := hLF.alloc (.cells #[.string mLL.s, .bool mLL.hp, .string mLL.p, .int .i32 mLL.px, .string mLL.an, .bool mLL.ht, .bool mLL.ha, .int .i64 mLL.ta, .int .i64 mLL.aa, .bool mLL.hn, .int .i64 mLL.no] 26)
        have lABLL := hAB.2.2
        replace hAB := hAB.alloc (.cells #[.string mLL.s, .bool mLL.hp, .string mLL.p, .int .i32 mLL.px, .string mLL.an, .bool mLL.ht, .bool mLL.ha, .int .i64 mLL.ta, .int .i64 mLL.aa, .bool mLL.hn, .int .i64 mLL.no] 26)
        have hLL := QS.made wLL #[.string mLL.s, .bool mLL.hp, .string mLL.p, .int .i32 mLL.px, .string mLL.an, .bool mLL.ht, .bool mLL.ha, .int .i64 mLL.ta, .int .i64 mLL.aa, .bool mLL.hn, .int .i64 mLL.no] 26
        go_upto_region 24 with fail
        skip
        generalize wLL.alloc (.cells #[.string mLL.s, .bool mLL.hp, .string mLL.p, .int .i32 mLL.px, .string mLL.an, .bool mLL.ht, .bool mLL.ha, .int .i64 mLL.ta, .int .i64 mLL.aa, .bool mLL.hn, .int .i64 mLL.no] 26) = v9LL at hbw hZA hZB hZC hLF hAB hLL ⊢
        clear hAB
        have hth := there_of_qs hLF
        have hrg := range_of_qs mLL hLL
        refine wp_region_lit ?_
        refine wpList_load_mid (by rfl) 26 (.tmp 18) (by rfl) wLL.heap.size 0 (by rfl) [.string mLL.s, .bool mLL.hp, .string mLL.p, .int .i32 mLL.px, .string mLL.an, .bool mLL.ht, .bool mLL.ha, .int .i64 mLL.ta, .int .i64 mLL.aa, .bool mLL.hn, .int .i64 mLL.no] _ hrg Try.underlying26 rfl info26s ?_
        refine wpList_store_mid (by rfl) 26 (.tmp 15) (.tmp 103) (by rfl) qLFq 0 #[.string mLL.s, .bool mLL.hp, .string mLL.p, .int .i32 mLL.px, .string mLL.an, .bool mLL.ht, .bool mLL.ha, .int .i64 mLL.ta, .int .i64 mLL.aa, .bool mLL.hn, .int .i64 mLL.no] (by rfl) (by rfl) hth info26s (one11 mLL) ?_
        refine wpList_nil ?_
        go_frame
        clear hrg
        go_upto_region 25 with fail
        clear hth
        have sbw : Below w.heap.size w (v9LL.setCells qLFq 0 (Array.toList #[.string mLL.s, .bool mLL.hp, .string mLL.p, .int .i32 mLL.px, .string mLL.an, .bool mLL.ht, .bool mLL.ha, .int .i64 mLL.ta, .int .i64 mLL.aa, .bool mLL.hn, .int .i64 mLL.no])) := store_below1 mLL hbw (by have := hbw0LF; omega)
        have sZA := store_keep1 mLL (q := qLFq) hZA (by omega)
        have sZB := store_keep1 mLL (q := qLFq) hZB (by omega)
        have sZC := store_keep1 mLL (q := qLFq) hZC (by omega)
        have sLF : QS #[.string mLL.s, .bool mLL.hp, .string mLL.p, .int .i32 mLL.px, .string mLL.an, .bool mLL.ht, .bool mLL.ha, .int .i64 mLL.ta, .int .i64 mLL.aa, .bool mLL.hn, .int .i64 mLL.no] qLFq (v9LL.setCells qLFq 0 (Array.toList #[.string mLL.s, .bool mLL.hp, .string mLL.p, .int .i32 mLL.px, .string mLL.an, .bool mLL.ht, .bool mLL.ha, .int .i64 mLL.ta, .int .i64 mLL.aa, .bool mLL.hn, .int .i64 mLL.no])) := store_qs1 mLL hLF
        have sLL := store_keep1 mLL (q := qLFq) hLL (by omega)
        generalize v9LL.setCells qLFq 0 (Array.toList #[.string mLL.s, .bool mLL.hp, .string mLL.p, .int .i32 mLL.px, .string mLL.an, .bool mLL.ht, .bool mLL.ha, .int .i64 mLL.ta, .int .i64 mLL.aa, .bool mLL.hn, .int .i64 mLL.no]) = v10st at sbw sZA sZB sZC sLF sLL ⊢
        clear hbw hZA hZB hZC hLF hLL
        have hbw := sbw
        clear sbw
        have hZA := sZA
        clear sZA
        have hZB := sZB
        clear sZB
        have hZC := sZC
        clear sZC
        have hLF := sLF
        clear sLF
        have hLL := sLL
        clear sLL
        clear hLL
        go_cut [20] from 26 (fun s20 wc => s20 = .bool false ∧ wc = v10st)
        case first =>
          go_wp2_with fail
          go_meet
          case rel => exact ⟨rfl, rfl⟩
        case rest =>
        obtain ⟨rfl, hwc⟩ := hcut
        subst hwc
        obtain ⟨v10st, rfl⟩ : ∃ V, V = wc := ⟨_, rfl⟩
        clear hqLF
        have hbw0RT := hbw.size
        replace hbw := hbw.alloc hbw.size (.cells #[.string ⟨#[]⟩, .bool false, .string ⟨#[]⟩, .int .i32 0, .string ⟨#[]⟩, .bool false, .bool false, .int .i64 0, .int .i64 0, .bool false, .int .i64 0] 26)
        have lZART := hZA.2.2
        replace hZA := hZA.alloc (.cells #[.string ⟨#[]⟩, .bool false, .string ⟨#[]⟩, .int .i32 0, .string ⟨#[]⟩, .bool false, .bool false, .int .i64 0, .int .i64 0, .bool false, .int .i64 0] 26)
        have lZBRT := hZB.2.2
        replace hZB := hZB.alloc (.cells #[.string ⟨#[]⟩, .bool false, .string ⟨#[]⟩, .int .i32 0, .string ⟨#[]⟩, .bool false, .bool false, .int .i64 0, .int .i64 0, .bool false, .int .i64 0] 26)
        have lZCRT := hZC.2.2
        replace hZC := hZC.alloc (.cells #[.string ⟨#[]⟩, .bool false, .string ⟨#[]⟩, .int .i32 0, .string ⟨#[]⟩, .bool false, .bool false, .int .i64 0, .int .i64 0, .bool false, .int .i64 0] 26)
        have lLFRT := hLF.2.2
        replace hLF := hLF.alloc (.cells #[.string ⟨#[]⟩, .bool false, .string ⟨#[]⟩, .int .i32 0, .string ⟨#[]⟩, .bool false, .bool false, .int .i64 0, .int .i64 0, .bool false, .int .i64 0] 26)
        have hRT := QS.made v10st #[.string ⟨#[]⟩, .bool false, .string ⟨#[]⟩, .int .i32 0, .string ⟨#[]⟩, .bool false, .bool false, .int .i64 0, .int .i64 0, .bool false, .int .i64 0] 26
        go_upto_region 27 with fail
        generalize hqRT : v10st.heap.size = qRTq at hRT hbw0RT lZART lZBRT lZCRT lLFRT ⊢
        generalize v10st.alloc (.cells #[.string ⟨#[]⟩, .bool false, .string ⟨#[]⟩, .int .i32 0, .string ⟨#[]⟩, .bool false, .bool false, .int .i64 0, .int .i64 0, .bool false, .int .i64 0] 26) = v11RT at hbw hZA hZB hZC hLF hRT ⊢
        obtain ⟨qZB, qZBf, qZBl⟩ := QS.out hZB
        obtain ⟨qZC, qZCf, qZCl⟩ := QS.out hZC
        go_wp2_with fail
        refine (mergeYes b c _ hbc).mono ?_
        rintro e wBC ⟨mBC, rfl, hmBC, hb⟩
        clear qZB qZBf qZBl qZC qZCf qZCl
        replace hbw := hbw.trans (hb.mono hbw.size)
        replace hZA := QS.keep hb hZA
        replace hZB := QS.keep hb hZB
        replace hZC := QS.keep hb hZC
        replace hLF := QS.keep hb hLF
        replace hRT := QS.keep hb hRT
        clear hb
        replace hbw := hbw.alloc hbw.size (.cells #[.string mBC.s, .bool mBC.hp, .string mBC.p, .int .i32 mBC.px, .string mBC.an, .bool mBC.ht, .bool mBC.ha, .int .i64 mBC.ta, .int .i64 mBC.aa, .bool mBC.hn, .int .i64 mBC.no] 26)
        have lZABC := hZA.2.2
        replace hZA := hZA.alloc (.cells #[.string mBC.s, .bool mBC.hp, .string mBC.p, .int .i32 mBC.px, .string mBC.an, .bool mBC.ht, .bool mBC.ha, .int .i64 mBC.ta, .int .i64 mBC.aa, .bool mBC.hn, .int .i64 mBC.no] 26)
        have lZBBC := hZB.2.2
        replace hZB := hZB.alloc (.cells #[.string mBC.s, .bool mBC.hp, .string mBC.p, .int .i32 mBC.px, .string mBC.an, .bool mBC.ht, .bool mBC.ha, .int .i64 mBC.ta, .int .i64 mBC.aa, .bool mBC.hn, .int .i64 mBC.no] 26)
        have lZCBC := hZC.2.2
        replace hZC := hZC.alloc (.cells #[.string mBC.s, .bool mBC.hp, .string mBC.p, .int .i32 mBC.px, .string mBC.an, .bool mBC.ht, .bool mBC.ha, .int .i64 mBC.ta, .int .i64 mBC.aa, .bool mBC.hn, .int .i64 mBC.no] 26)
        have lLFBC := hLF.2.2
        replace hLF := hLF.alloc (.cells #[.string mBC.s, .bool mBC.hp, .string mBC.p, .int .i32 mBC.px, .string mBC.an, .bool mBC.ht, .bool mBC.ha, .int .i64 mBC.ta, .int .i64 mBC.aa, .bool mBC.hn, .int .i64 mBC.no] 26)
        have lRTBC := hRT.2.2
        replace hRT := hRT.alloc (.cells #[.string mBC.s, .bool mBC.hp, .string mBC.p, .int .i32 mBC.px, .string mBC.an, .bool mBC.ht, .bool mBC.ha, .int .i64 mBC.ta, .int .i64 mBC.aa, .bool mBC.hn, .int .i64 mBC.no] 26)
        have hBC := QS.made wBC #[.string mBC.s, .bool mBC.hp, .string mBC.p, .int .i32 mBC.px, .string mBC.an, .bool mBC.ht, .bool mBC.ha, .int .i64 mBC.ta, .int .i64 mBC.aa, .bool mBC.hn, .int .i64 mBC.no] 26
        go_upto_region 29 with fail
        skip
        generalize wBC.alloc (.cells #[.string mBC.s, .bool mBC.hp, .string mBC.p, .int .i32 mBC.px, .string mBC.an, .bool mBC.ht, .bool mBC.ha, .int .i64 mBC.ta, .int .i64 mBC.aa, .bool mBC.hn, .int .i64 mBC.no] 26) = v12BC at hbw hZA hZB hZC hLF hRT hBC ⊢
        obtain ⟨qBC, qBCf, qBCl⟩ := QS.out hBC
        obtain ⟨qZA, qZAf, qZAl⟩ := QS.out hZA
        go_wp2_with fail
        refine (mergeYes a mBC _ (by have e : mBC = mg b c := hmBC; rw [e]; exact ok_abc a b c hab habc)).mono ?_
        rintro e wRR ⟨mRR, rfl, hmRR, hb⟩
        clear qBC qBCf qBCl qZA qZAf qZAl
        replace hbw := hbw.trans (hb.mono hbw.size)
        replace hZA := QS.keep hb hZA
        replace hZB := QS.keep hb hZB
        replace hZC := QS.keep hb hZC
        replace hLF := QS.keep hb hLF
        replace hRT := QS.keep hb hRT
        replace hBC := QS.keep hb hBC
        clear hb
        replace hbw := hbw.alloc hbw.size (.cells #[.string mRR.s, .bool mRR.hp, .string mRR.p, .int .i32 mRR.px, .string mRR.an, .bool mRR.ht, .bool mRR.ha, .int .i64 mRR.ta, .int .i64 mRR.aa, .bool mRR.hn, .int .i64 mRR.no] 26)
        have lZARR := hZA.2.2
        replace hZA := hZA.alloc (.cells #[.string mRR.s, .bool mRR.hp, .string mRR.p, .int .i32 mRR.px, .string mRR.an, .bool mRR.ht, .bool mRR.ha, .int .i64 mRR.ta, .int .i64 mRR.aa, .bool mRR.hn, .int .i64 mRR.no] 26)
        have lZBRR := hZB.2.2
        replace hZB := hZB.alloc (.cells #[.string mRR.s, .bool mRR.hp, .string mRR.p, .int .i32 mRR.px, .string mRR.an, .bool mRR.ht, .bool mRR.ha, .int .i64 mRR.ta, .int .i64 mRR.aa, .bool mRR.hn, .int .i64 mRR.no] 26)
        have lZCRR := hZC.2.2
        replace hZC := hZC.alloc (.cells #[.string mRR.s, .bool mRR.hp, .string mRR.p, .int .i32 mRR.px, .string mRR.an, .bool mRR.ht, .bool mRR.ha, .int .i64 mRR.ta, .int .i64 mRR.aa, .bool mRR.hn, .int .i64 mRR.no] 26)
        have lLFRR := hLF.2.2
        replace hLF := hLF.alloc (.cells #[.string mRR.s, .bool mRR.hp, .string mRR.p, .int .i32 mRR.px, .string mRR.an, .bool mRR.ht, .bool mRR.ha, .int .i64 mRR.ta, .int .i64 mRR.aa, .bool mRR.hn, .int .i64 mRR.no] 26)
        have lRTRR := hRT.2.2
        replace hRT := hRT.alloc (.cells #[.string mRR.s, .bool mRR.hp, .string mRR.p, .int .i32 mRR.px, .string mRR.an, .bool mRR.ht, .bool mRR.ha, .int .i64 mRR.ta, .int .i64 mRR.aa, .bool mRR.hn, .int .i64 mRR.no] 26)
        have lBCRR := hBC.2.2
        replace hBC := hBC.alloc (.cells #[.string mRR.s, .bool mRR.hp, .string mRR.p, .int .i32 mRR.px, .string mRR.an, .bool mRR.ht, .bool mRR.ha, .int .i64 mRR.ta, .int .i64 mRR.aa, .bool mRR.hn, .int .i64 mRR.no] 26)
        have hRR := QS.made wRR #[.string mRR.s, .bool mRR.hp, .string mRR.p, .int .i32 mRR.px, .string mRR.an, .bool mRR.ht, .bool mRR.ha, .int .i64 mRR.ta, .int .i64 mRR.aa, .bool mRR.hn, .int .i64 mRR.no] 26
        go_upto_region 32 with fail
        skip
        generalize wRR.alloc (.cells #[.string mRR.s, .bool mRR.hp, .string mRR.p, .int .i32 mRR.px, .string mRR.an, .bool mRR.ht, .bool mRR.ha, .int .i64 mRR.ta, .int .i64 mRR.aa, .bool mRR.hn, .int .i64 mRR.no] 26) = v13RR at hbw hZA hZB hZC hLF hRT hBC hRR ⊢
        clear hZA
        clear hZB
        clear hZC
        clear hBC
        have hth := there_of_qs hRT
        have hrg := range_of_qs mRR hRR
        refine wp_region_lit ?_
        refine wpList_load_mid (by rfl) 26 (.tmp 24) (by rfl) wRR.heap.size 0 (by rfl) [.string mRR.s, .bool mRR.hp, .string mRR.p, .int .i32 mRR.px, .string mRR.an, .bool mRR.ht, .bool mRR.ha, .int .i64 mRR.ta, .int .i64 mRR.aa, .bool mRR.hn, .int .i64 mRR.no] _ hrg Try.underlying26 rfl info26s ?_
        refine wpList_store_mid (by rfl) 26 (.tmp 21) (.tmp 120) (by rfl) qRTq 0 #[.string mRR.s, .bool mRR.hp, .string mRR.p, .int .i32 mRR.px, .string mRR.an, .bool mRR.ht, .bool mRR.ha, .int .i64 mRR.ta, .int .i64 mRR.aa, .bool mRR.hn, .int .i64 mRR.no] (by rfl) (by rfl) hth info26s (one11 mRR) ?_
        refine wpList_nil ?_
        go_frame
        clear hrg
        go_upto_region 33 with fail
        clear hth
        have sbw : Below w.heap.size w (v13RR.setCells qRTq 0 (Array.toList #[.string mRR.s, .bool mRR.hp, .string mRR.p, .int .i32 mRR.px, .string mRR.an, .bool mRR.ht, .bool mRR.ha, .int .i64 mRR.ta, .int .i64 mRR.aa, .bool mRR.hn, .int .i64 mRR.no])) := store_below1 mRR hbw (by have := hbw0RT; omega)
        have sLF := store_keep1 mRR (q := qRTq) hLF (by omega)
        have sRT : QS #[.string mRR.s, .bool mRR.hp, .string mRR.p, .int .i32 mRR.px, .string mRR.an, .bool mRR.ht, .bool mRR.ha, .int .i64 mRR.ta, .int .i64 mRR.aa, .bool mRR.hn, .int .i64 mRR.no] qRTq (v13RR.setCells qRTq 0 (Array.toList #[.string mRR.s, .bool mRR.hp, .string mRR.p, .int .i32 mRR.px, .string mRR.an, .bool mRR.ht, .bool mRR.ha, .int .i64 mRR.ta, .int .i64 mRR.aa, .bool mRR.hn, .int .i64 mRR.no])) := store_qs1 mRR hRT
        have sRR := store_keep1 mRR (q := qRTq) hRR (by omega)
        generalize v13RR.setCells qRTq 0 (Array.toList #[.string mRR.s, .bool mRR.hp, .string mRR.p, .int .i32 mRR.px, .string mRR.an, .bool mRR.ht, .bool mRR.ha, .int .i64 mRR.ta, .int .i64 mRR.aa, .bool mRR.hn, .int .i64 mRR.no]) = v14st at sbw sLF sRT sRR ⊢
        clear hbw hLF hRT hRR
        have hbw := sbw
        clear sbw
        have hLF := sLF
        clear sLF
        have hRT := sRT
        clear sRT
        have hRR := sRR
        clear sRR
        clear hRR
        go_cut [123] from 26 (fun s123 wc => s123 = .bool false ∧ wc = v14st)
        case first =>
          go_wp2_with fail
          go_meet
          case rel => exact ⟨rfl, rfl⟩
        case rest =>
        obtain ⟨rfl, hwc⟩ := hcut
        subst hwc
        obtain ⟨v14st, rfl⟩ : ∃ V, V = wc := ⟨_, rfl⟩
        clear hqRT
        obtain ⟨qLF, qLFf, qLFl⟩ := QS.out hLF
        obtain ⟨qRT, qRTf, qRTl⟩ := QS.out hRT
        go_wp2_with fail
        refine (sameYes mLL mRR _ (by have e1 : mLL = mg mAB c := hmLL; have e2 : mAB = mg a b := hmAB; have e3 : mRR = mg a mBC := hmRR; have e4 : mBC = mg b c := hmBC; rw [e1, e2, e3, e4]; exact sm_assoc a b c hab habc)).mono ?_
        rintro e wfin ⟨rfl, hb⟩
        replace hbw := hbw.trans (hb.mono hbw.size)
        clear qLF qLFf qLFl qRT qRTf qRTl
        go_wp2
        go_ret
        exact ⟨rfl, hbw⟩
    · by_cases hbc : Ok b c
      · as_aux_lemma =>
          obtain ⟨qZA, qZAf, qZAl⟩ := QS.out hZA
          obtain ⟨qZB, qZBf, qZBl⟩ := QS.out hZB
          go_wp2_with fail
          refine (mergeYes a b _ hab).mono ?_
          rintro e wAB ⟨mAB, rfl, hmAB, hb⟩
          clear qZA qZAf qZAl qZB qZBf qZBl
          replace hbw := hbw.trans (hb.mono hbw.size)
          replace hZA := QS.keep hb hZA
          replace hZB := QS.keep hb hZB
          replace hZC := QS.keep hb hZC
          replace hLF := QS.keep hb hLF
          clear hb
          replace hbw := hbw.alloc hbw.size (.cells #[.string mAB.s, .bool mAB.hp, .string mAB.p, .int .i32 mAB.px, .string mAB.an, .bool mAB.ht, .bool mAB.ha, .int .i64 mAB.ta, .int .i64 mAB.aa, .bool mAB.hn, .int .i64 mAB.no] 26)
          have lZAAB := hZA.2.2
          replace hZA := hZA.alloc (.cells #[.string mAB.s, .bool mAB.hp, .string mAB.p, .int .i32 mAB.px, .string mAB.an, .bool mAB.ht, .bool mAB.ha, .int .i64 mAB.ta, .int .i64 mAB.aa, .bool mAB.hn, .int .i64 mAB.no] 26)
          have lZBAB := hZB.2.2
          replace hZB := hZB.alloc (.cells #[.string mAB.s, .bool mAB.hp, .string mAB.p, .int .i32 mAB.px, .string mAB.an, .bool mAB.ht, .bool mAB.ha, .int .i64 mAB.ta, .int .i64 mAB.aa, .bool mAB.hn, .int .i64 mAB.no] 26)
          have lZCAB := hZC.2.2
          replace hZC := hZC.alloc (.cells #[.string mAB.s, .bool mAB.hp, .string mAB.p, .int .i32 mAB.px, .string mAB.an, .bool mAB.ht, .bool mAB.ha, .int .i64 mAB.ta, .int .i64 mAB.aa, .bool mAB.hn, .int .i64 mAB.no] 26)
          have lLFAB := hLF.2.2
          replace hLF := hLF.alloc (.cells #[.string mAB.s, .bool mAB.hp, .string mAB.p, .int .i32 mAB.px, .string mAB.an, .bool mAB.ht, .bool mAB.ha, .int .i64 mAB.ta, .int .i64 mAB.aa, .bool mAB.hn, .int .i64 mAB.no] 26)
          have hAB := QS.made wAB #[.string mAB.s, .bool mAB.hp, .string mAB.p, .int .i32 mAB.px, .string mAB.an, .bool mAB.ht, .bool mAB.ha, .int .i64 mAB.ta, .int .i64 mAB.aa, .bool mAB.hn, .int .i64 mAB.no] 26
          go_upto_region 21 with fail
          skip
          generalize wAB.alloc (.cells #[.string mAB.s, .bool mAB.hp, .string mAB.p, .int .i32 mAB.px, .string mAB.an, .bool mAB.ht, .bool mAB.ha, .int .i64 mAB.ta, .int .i64 mAB.aa, .bool mAB.hn, .int .i64 mAB.no] 26) = v8AB at hbw hZA hZB hZC hLF hAB ⊢
          obtain ⟨qAB, qABf, qABl⟩ := QS.out hAB
          obtain ⟨qZC, qZCf, qZCl⟩ := QS.out hZC
          go_wp2_with fail
          refine (mergeNo mAB c _ (by have e : mAB = mg a b := hmAB; rw [e]; exact habc)).mono ?_
          rintro e wLL ⟨mLL, mLLx, rfl, hmLL, hb⟩
          clear qAB qABf qABl qZC qZCf qZCl
          replace hbw := hbw.trans (hb.mono hbw.size)
          replace hZA := QS.keep hb hZA
          replace hZB := QS.keep hb hZB
          replace hZC := QS.keep hb hZC
          replace hLF := QS.keep hb hLF
          replace hAB := QS.keep hb hAB
          clear hb
          replace hbw := hbw.alloc hbw.size (.cells #[.string mLL.s, .bool mLL.hp, .string mLL.p, .int .i32 mLL.px, .string mLL.an, .bool mLL.ht, .bool mLL.ha, .int .i64 mLL.ta, .int .i64 mLL.aa, .bool mLL.hn, .int .i64 mLL.no] 26)
          have lZALL := hZA.2.2
          replace hZA := hZA.alloc (.cells #[.string mLL.s, .bool mLL.hp, .string mLL.p, .int .i32 mLL.px, .string mLL.an, .bool mLL.ht, .bool mLL.ha, .int .i64 mLL.ta, .int .i64 mLL.aa, .bool mLL.hn, .int .i64 mLL.no] 26)
          have lZBLL := hZB.2.2
          replace hZB := hZB.alloc (.cells #[.string mLL.s, .bool mLL.hp, .string mLL.p, .int .i32 mLL.px, .string mLL.an, .bool mLL.ht, .bool mLL.ha, .int .i64 mLL.ta, .int .i64 mLL.aa, .bool mLL.hn, .int .i64 mLL.no] 26)
          have lZCLL := hZC.2.2
          replace hZC := hZC.alloc (.cells #[.string mLL.s, .bool mLL.hp, .string mLL.p, .int .i32 mLL.px, .string mLL.an, .bool mLL.ht, .bool mLL.ha, .int .i64 mLL.ta, .int .i64 mLL.aa, .bool mLL.hn, .int .i64 mLL.no] 26)
          have lLFLL := hLF.2.2
          replace hLF := hLF.alloc (.cells #[.string mLL.s, .bool mLL.hp, .string mLL.p, .int .i32 mLL.px, .string mLL.an, .bool mLL.ht, .bool mLL.ha, .int .i64 mLL.ta, .int .i64 mLL.aa, .bool mLL.hn, .int .i64 mLL.no] 26)
          have lABLL := hAB.2.2
          replace hAB := hAB.alloc (.cells #[.string mLL.s, .bool mLL.hp, .string mLL.p, .int .i32 mLL.px, .string mLL.an, .bool mLL.ht, .bool mLL.ha, .int .i64 mLL.ta, .int .i64 mLL.aa, .bool mLL.hn, .int .i64 mLL.no] 26)
          have hLL := QS.made wLL #[.string mLL.s, .bool mLL.hp, .string mLL.p, .int .i32 mLL.px, .string mLL.an, .bool mLL.ht, .bool mLL.ha, .int .i64 mLL.ta, .int .i64 mLL.aa, .bool mLL.hn, .int .i64 mLL.no] 26
          go_upto_region 25 with fail
          skip
          generalize wLL.alloc (.cells #[.string mLL.s, .bool mLL.hp, .string mLL.p, .int .i32 mLL.px, .string mLL.an, .bool mLL.ht, .bool mLL.ha, .int .i64 mLL.ta, .int .i64 mLL.aa, .bool mLL.hn, .int .i64 mLL.no] 26) = v9LL at hbw hZA hZB hZC hLF hAB hLL ⊢
          clear hLL
          clear hAB
          clear hLF
          replace hbw := hbw.alloc hbw.size (.cells #[.string ⟨#[]⟩, .bool false, .string ⟨#[]⟩, .int .i32 0, .string ⟨#[]⟩, .bool false, .bool false, .int .i64 0, .int .i64 0, .bool false, .int .i64 0] 26)
          replace hZA := hZA.alloc (.cells #[.string ⟨#[]⟩, .bool false, .string ⟨#[]⟩, .int .i32 0, .string ⟨#[]⟩, .bool false, .bool false, .int .i64 0, .int .i64 0, .bool false, .int .i64 0] 26)
          replace hZB := hZB.alloc (.cells #[.string ⟨#[]⟩, .bool false, .string ⟨#[]⟩, .int .i32 0, .string ⟨#[]⟩, .bool false, .bool false, .int .i64 0, .int .i64 0, .bool false, .int .i64 0] 26)
          replace hZC := hZC.alloc (.cells #[.string ⟨#[]⟩, .bool false, .string ⟨#[]⟩, .int .i32 0, .string ⟨#[]⟩, .bool false, .bool false, .int .i64 0, .int .i64 0, .bool false, .int .i64 0] 26)
          go_upto_region 27 with fail
          generalize v9LL.alloc (.cells #[.string ⟨#[]⟩, .bool false, .string ⟨#[]⟩, .int .i32 0, .string ⟨#[]⟩, .bool false, .bool false, .int .i64 0, .int .i64 0, .bool false, .int .i64 0] 26) = vrt at hbw hZA hZB hZC ⊢
          obtain ⟨qZB, qZBf, qZBl⟩ := QS.out hZB
          obtain ⟨qZC, qZCf, qZCl⟩ := QS.out hZC
          go_wp2_with fail
          refine (mergeYes b c _ hbc).mono ?_
          rintro e wBC ⟨mBC, rfl, hmBC, hb⟩
          clear qZB qZBf qZBl qZC qZCf qZCl
          replace hbw := hbw.trans (hb.mono hbw.size)
          replace hZA := QS.keep hb hZA
          replace hZB := QS.keep hb hZB
          replace hZC := QS.keep hb hZC
          clear hb
          replace hbw := hbw.alloc hbw.size (.cells #[.string mBC.s, .bool mBC.hp, .string mBC.p, .int .i32 mBC.px, .string mBC.an, .bool mBC.ht, .bool mBC.ha, .int .i64 mBC.ta, .int .i64 mBC.aa, .bool mBC.hn, .int .i64 mBC.no] 26)
          have lZABC := hZA.2.2
          replace hZA := hZA.alloc (.cells #[.string mBC.s, .bool mBC.hp, .string mBC.p, .int .i32 mBC.px, .string mBC.an, .bool mBC.ht, .bool mBC.ha, .int .i64 mBC.ta, .int .i64 mBC.aa, .bool mBC.hn, .int .i64 mBC.no] 26)
          have lZBBC := hZB.2.2
          replace hZB := hZB.alloc (.cells #[.string mBC.s, .bool mBC.hp, .string mBC.p, .int .i32 mBC.px, .string mBC.an, .bool mBC.ht, .bool mBC.ha, .int .i64 mBC.ta, .int .i64 mBC.aa, .bool mBC.hn, .int .i64 mBC.no] 26)
          have lZCBC := hZC.2.2
          replace hZC := hZC.alloc (.cells #[.string mBC.s, .bool mBC.hp, .string mBC.p, .int .i32 mBC.px, .string mBC.an, .bool mBC.ht, .bool mBC.ha, .int .i64 mBC.ta, .int .i64 mBC.aa, .bool mBC.hn, .int .i64 mBC.no] 26)
          have hBC := QS.made wBC #[.string mBC.s, .bool mBC.hp, .string mBC.p, .int .i32 mBC.px, .string mBC.an, .bool mBC.ht, .bool mBC.ha, .int .i64 mBC.ta, .int .i64 mBC.aa, .bool mBC.hn, .int .i64 mBC.no] 26
          go_upto_region 29 with fail
          skip
          generalize wBC.alloc (.cells #[.string mBC.s, .bool mBC.hp, .string mBC.p, .int .i32 mBC.px, .string mBC.an, .bool mBC.ht, .bool mBC.ha, .int .i64 mBC.ta, .int .i64 mBC.aa, .bool mBC.hn, .int .i64 mBC.no] 26) = v10BC at hbw hZA hZB hZC hBC ⊢
          obtain ⟨qBC, qBCf, qBCl⟩ := QS.out hBC
          obtain ⟨qZA, qZAf, qZAl⟩ := QS.out hZA
          go_wp2_with fail
          refine (mergeNo a mBC _ (by have e : mBC = mg b c := hmBC; rw [e]; exact no_abc a b c hab habc hbc)).mono ?_
          rintro e wRR ⟨mRR, mRRx, rfl, hmRR, hb⟩
          clear qBC qBCf qBCl qZA qZAf qZAl
          replace hbw := hbw.trans (hb.mono hbw.size)
          replace hZA := QS.keep hb hZA
          replace hZB := QS.keep hb hZB
          replace hZC := QS.keep hb hZC
          replace hBC := QS.keep hb hBC
          clear hb
          replace hbw := hbw.alloc hbw.size (.cells #[.string mRR.s, .bool mRR.hp, .string mRR.p, .int .i32 mRR.px, .string mRR.an, .bool mRR.ht, .bool mRR.ha, .int .i64 mRR.ta, .int .i64 mRR.aa, .bool mRR.hn, .int .i64 mRR.no] 26)
          have lZARR := hZA.2.2
          replace hZA := hZA.alloc (.cells #[.string mRR.s, .bool mRR.hp, .string mRR.p, .int .i32 mRR.px, .string mRR.an, .bool mRR.ht, .bool mRR.ha, .int .i64 mRR.ta, .int .i64 mRR.aa, .bool mRR.hn, .int .i64 mRR.no] 26)
          have lZBRR := hZB.2.2
          replace hZB := hZB.alloc (.cells #[.string mRR.s, .bool mRR.hp, .string mRR.p, .int .i32 mRR.px, .string mRR.an, .bool mRR.ht, .bool mRR.ha, .int .i64 mRR.ta, .int .i64 mRR.aa, .bool mRR.hn, .int .i64 mRR.no] 26)
          have lZCRR := hZC.2.2
          replace hZC := hZC.alloc (.cells #[.string mRR.s, .bool mRR.hp, .string mRR.p, .int .i32 mRR.px, .string mRR.an, .bool mRR.ht, .bool mRR.ha, .int .i64 mRR.ta, .int .i64 mRR.aa, .bool mRR.hn, .int .i64 mRR.no] 26)
          have lBCRR := hBC.2.2
          replace hBC := hBC.alloc (.cells #[.string mRR.s, .bool mRR.hp, .string mRR.p, .int .i32 mRR.px, .string mRR.an, .bool mRR.ht, .bool mRR.ha, .int .i64 mRR.ta, .int .i64 mRR.aa, .bool mRR.hn, .int .i64 mRR.no] 26)
          have hRR := QS.made wRR #[.string mRR.s, .bool mRR.hp, .string mRR.p, .int .i32 mRR.px, .string mRR.an, .bool mRR.ht, .bool mRR.ha, .int .i64 mRR.ta, .int .i64 mRR.aa, .bool mRR.hn, .int .i64 mRR.no] 26
          go_upto_region 33 with fail
          skip
          generalize wRR.alloc (.cells #[.string mRR.s, .bool mRR.hp, .string mRR.p, .int .i32 mRR.px, .string mRR.an, .bool mRR.ht, .bool mRR.ha, .int .i64 mRR.ta, .int .i64 mRR.aa, .bool mRR.hn, .int .i64 mRR.no] 26) = v11RR at hbw hZA hZB hZC hBC hRR ⊢
          go_wp2
          go_ret
          exact ⟨rfl, hbw⟩
      · as_aux_lemma =>
          obtain ⟨qZA, qZAf, qZAl⟩ := QS.out hZA
          obtain ⟨qZB, qZBf, qZBl⟩ := QS.out hZB
          go_wp2_with fail
          refine (mergeYes a b _ hab).mono ?_
          rintro e wAB ⟨mAB, rfl, hmAB, hb⟩
          clear qZA qZAf qZAl qZB qZBf qZBl
          replace hbw := hbw.trans (hb.mono hbw.size)
          replace hZA := QS.keep hb hZA
          replace hZB := QS.keep hb hZB
          replace hZC := QS.keep hb hZC
          replace hLF := QS.keep hb hLF
          clear hb
          replace hbw := hbw.alloc hbw.size (.cells #[.string mAB.s, .bool mAB.hp, .string mAB.p, .int .i32 mAB.px, .string mAB.an, .bool mAB.ht, .bool mAB.ha, .int .i64 mAB.ta, .int .i64 mAB.aa, .bool mAB.hn, .int .i64 mAB.no] 26)
          have lZAAB := hZA.2.2
          replace hZA := hZA.alloc (.cells #[.string mAB.s, .bool mAB.hp, .string mAB.p, .int .i32 mAB.px, .string mAB.an, .bool mAB.ht, .bool mAB.ha, .int .i64 mAB.ta, .int .i64 mAB.aa, .bool mAB.hn, .int .i64 mAB.no] 26)
          have lZBAB := hZB.2.2
          replace hZB := hZB.alloc (.cells #[.string mAB.s, .bool mAB.hp, .string mAB.p, .int .i32 mAB.px, .string mAB.an, .bool mAB.ht, .bool mAB.ha, .int .i64 mAB.ta, .int .i64 mAB.aa, .bool mAB.hn, .int .i64 mAB.no] 26)
          have lZCAB := hZC.2.2
          replace hZC := hZC.alloc (.cells #[.string mAB.s, .bool mAB.hp, .string mAB.p, .int .i32 mAB.px, .string mAB.an, .bool mAB.ht, .bool mAB.ha, .int .i64 mAB.ta, .int .i64 mAB.aa, .bool mAB.hn, .int .i64 mAB.no] 26)
          have lLFAB := hLF.2.2
          replace hLF := hLF.alloc (.cells #[.string mAB.s, .bool mAB.hp, .string mAB.p, .int .i32 mAB.px, .string mAB.an, .bool mAB.ht, .bool mAB.ha, .int .i64 mAB.ta, .int .i64 mAB.aa, .bool mAB.hn, .int .i64 mAB.no] 26)
          have hAB := QS.made wAB #[.string mAB.s, .bool mAB.hp, .string mAB.p, .int .i32 mAB.px, .string mAB.an, .bool mAB.ht, .bool mAB.ha, .int .i64 mAB.ta, .int .i64 mAB.aa, .bool mAB.hn, .int .i64 mAB.no] 26
          go_upto_region 21 with fail
          skip
          generalize wAB.alloc (.cells #[.string mAB.s, .bool mAB.hp, .string mAB.p, .int .i32 mAB.px, .string mAB.an, .bool mAB.ht, .bool mAB.ha, .int .i64 mAB.ta, .int .i64 mAB.aa, .bool mAB.hn, .int .i64 mAB.no] 26) = v8AB at hbw hZA hZB hZC hLF hAB ⊢
          obtain ⟨qAB, qABf, qABl⟩ := QS.out hAB
          obtain ⟨qZC, qZCf, qZCl⟩ := QS.out hZC
          go_wp2_with fail
          refine (mergeNo mAB c _ (by have e : mAB = mg a b := hmAB; rw [e]; exact habc)).mono ?_
          rintro e wLL ⟨mLL, mLLx, rfl, hmLL, hb⟩
          clear qAB qABf qABl qZC qZCf qZCl
          replace hbw := hbw.trans (hb.mono hbw.size)
          replace hZA := QS.keep hb hZA
          replace hZB := QS.keep hb hZB
          replace hZC := QS.keep hb hZC
          replace hLF := QS.keep hb hLF
          replace hAB := QS.keep hb hAB
          clear hb
          replace hbw := hbw.alloc hbw.size (.cells #[.string mLL.s, .bool mLL.hp, .string mLL.p, .int .i32 mLL.px, .string mLL.an, .bool mLL.ht, .bool mLL.ha, .int .i64 mLL.ta, .int .i64 mLL.aa, .bool mLL.hn, .int .i64 mLL.no] 26)
          have lZALL := hZA.2.2
          replace hZA := hZA.alloc (.cells #[.string mLL.s, .bool mLL.hp, .string mLL.p, .int .i32 mLL.px, .string mLL.an, .bool mLL.ht, .bool mLL.ha, .int .i64 mLL.ta, .int .i64 mLL.aa, .bool mLL.hn, .int .i64 mLL.no] 26)
          have lZBLL := hZB.2.2
          replace hZB := hZB.alloc (.cells #[.string mLL.s, .bool mLL.hp, .string mLL.p, .int .i32 mLL.px, .string mLL.an, .bool mLL.ht, .bool mLL.ha, .int .i64 mLL.ta, .int .i64 mLL.aa, .bool mLL.hn, .int .i64 mLL.no] 26)
          have lZCLL := hZC.2.2
          replace hZC := hZC.alloc (.cells #[.string mLL.s, .bool mLL.hp, .string mLL.p, .int .i32 mLL.px, .string mLL.an, .bool mLL.ht, .bool mLL.ha, .int .i64 mLL.ta, .int .i64 mLL.aa, .bool mLL.hn, .int .i64 mLL.no] 26)
          have lLFLL := hLF.2.2
          replace hLF := hLF.alloc (.cells #[.string mLL.s, .bool mLL.hp, .string mLL.p, .int .i32 mLL.px, .string mLL.an, .bool mLL.ht, .bool mLL.ha, .int .i64 mLL.ta, .int .i64 mLL.aa, .bool mLL.hn, .int .i64 mLL.no] 26)
          have lABLL := hAB.2.2
          replace hAB := hAB.alloc (.cells #[.string mLL.s, .bool mLL.hp, .string mLL.p, .int .i32 mLL.px, .string mLL.an, .bool mLL.ht, .bool mLL.ha, .int .i64 mLL.ta, .int .i64 mLL.aa, .bool mLL.hn, .int .i64 mLL.no] 26)
          have hLL := QS.made wLL #[.string mLL.s, .bool mLL.hp, .string mLL.p, .int .i32 mLL.px, .string mLL.an, .bool mLL.ht, .bool mLL.ha, .int .i64 mLL.ta, .int .i64 mLL.aa, .bool mLL.hn, .int .i64 mLL.no] 26
          go_upto_region 25 with fail
          skip
          generalize wLL.alloc (.cells #[.string mLL.s, .bool mLL.hp, .string mLL.p, .int .i32 mLL.px, .string mLL.an, .bool mLL.ht, .bool mLL.ha, .int .i64 mLL.ta, .int .i64 mLL.aa, .bool mLL.hn, .int .i64 mLL.no] 26) = v9LL at hbw hZA hZB hZC hLF hAB hLL ⊢
          clear hLL
          clear hAB
          clear hLF
          replace hbw := hbw.alloc hbw.size (.cells #[.string ⟨#[]⟩, .bool false, .string ⟨#[]⟩, .int .i32 0, .string ⟨#[]⟩, .bool false, .bool false, .int .i64 0, .int .i64 0, .bool false, .int .i64 0] 26)
          replace hZA := hZA.alloc (.cells #[.string ⟨#[]⟩, .bool false, .string ⟨#[]⟩, .int .i32 0, .string ⟨#[]⟩, .bool false, .bool false, .int .i64 0, .int .i64 0, .bool false, .int .i64 0] 26)
          replace hZB := hZB.alloc (.cells #[.string ⟨#[]⟩, .bool false, .string ⟨#[]⟩, .int .i32 0, .string ⟨#[]⟩, .bool false, .bool false, .int .i64 0, .int .i64 0, .bool false, .int .i64 0] 26)
          replace hZC := hZC.alloc (.cells #[.string ⟨#[]⟩, .bool false, .string ⟨#[]⟩, .int .i32 0, .string ⟨#[]⟩, .bool false, .bool false, .int .i64 0, .int .i64 0, .bool false, .int .i64 0] 26)
          go_upto_region 27 with fail
          generalize v9LL.alloc (.cells #[.string ⟨#[]⟩, .bool false, .string ⟨#[]⟩, .int .i32 0, .string ⟨#[]⟩, .bool false, .bool false, .int .i64 0, .int .i64 0, .bool false, .int .i64 0] 26) = vrt at hbw hZA hZB hZC ⊢
          obtain ⟨qZB, qZBf, qZBl⟩ := QS.out hZB
          obtain ⟨qZC, qZCf, qZCl⟩ := QS.out hZC
          go_wp2_with fail
          refine (mergeNo b c _ hbc).mono ?_
          rintro e wBC ⟨mBC, mBCx, rfl, hmBC, hb⟩
          clear qZB qZBf qZBl qZC qZCf qZCl
          replace hbw := hbw.trans (hb.mono hbw.size)
          replace hZA := QS.keep hb hZA
          replace hZB := QS.keep hb hZB
          replace hZC := QS.keep hb hZC
          clear hb
          replace hbw := hbw.alloc hbw.size (.cells #[.string mBC.s, .bool mBC.hp, .string mBC.p, .int .i32 mBC.px, .string mBC.an, .bool mBC.ht, .bool mBC.ha, .int .i64 mBC.ta, .int .i64 mBC.aa, .bool mBC.hn, .int .i64 mBC.no] 26)
          have lZABC := hZA.2.2
          replace hZA := hZA.alloc (.cells #[.string mBC.s, .bool mBC.hp, .string mBC.p, .int .i32 mBC.px, .string mBC.an, .bool mBC.ht, .bool mBC.ha, .int .i64 mBC.ta, .int .i64 mBC.aa, .bool mBC.hn, .int .i64 mBC.no] 26)
          have lZBBC := hZB.2.2
          replace hZB := hZB.alloc (.cells #[.string mBC.s, .bool mBC.hp, .string mBC.p, .int .i32 mBC.px, .string mBC.an, .bool mBC.ht, .bool mBC.ha, .int .i64 mBC.ta, .int .i64 mBC.aa, .bool mBC.hn, .int .i64 mBC.no] 26)
          have lZCBC := hZC.2.2
          replace hZC := hZC.alloc (.cells #[.string mBC.s, .bool mBC.hp, .string mBC.p, .int .i32 mBC.px, .string mBC.an, .bool mBC.ht, .bool mBC.ha, .int .i64 mBC.ta, .int .i64 mBC.aa, .bool mBC.hn, .int .i64 mBC.no] 26)
          have hBC := QS.made wBC #[.string mBC.s, .bool mBC.hp, .string mBC.p, .int .i32 mBC.px, .string mBC.an, .bool mBC.ht, .bool mBC.ha, .int .i64 mBC.ta, .int .i64 mBC.aa, .bool mBC.hn, .int .i64 mBC.no] 26
          go_upto_region 33 with fail
          skip
          generalize wBC.alloc (.cells #[.string mBC.s, .bool mBC.hp, .string mBC.p, .int .i32 mBC.px, .string mBC.an, .bool mBC.ht, .bool mBC.ha, .int .i64 mBC.ta, .int .i64 mBC.aa, .bool mBC.hn, .int .i64 mBC.no] 26) = v10BC at hbw hZA hZB hZC hBC ⊢
          go_wp2
          go_ret
          exact ⟨rfl, hbw⟩
  · by_cases hbc : Ok b c
    · as_aux_lemma =>
        obtain ⟨qZA, qZAf, qZAl⟩ := QS.out hZA
        obtain ⟨qZB, qZBf, qZBl⟩ := QS.out hZB
        go_wp2_with fail
        refine (mergeNo a b _ hab).mono ?_
        rintro e wAB ⟨mAB, mABx, rfl, hmAB, hb⟩
        clear qZA qZAf qZAl qZB qZBf qZBl
        replace hbw := hbw.trans (hb.mono hbw.size)
        replace hZA := QS.keep hb hZA
        replace hZB := QS.keep hb hZB
        replace hZC := QS.keep hb hZC
        replace hLF := QS.keep hb hLF
        clear hb
        replace hbw := hbw.alloc hbw.size (.cells #[.string mAB.s, .bool mAB.hp, .string mAB.p, .int .i32 mAB.px, .string mAB.an, .bool mAB.ht, .bool mAB.ha, .int .i64 mAB.ta, .int .i64 mAB.aa, .bool mAB.hn, .int .i64 mAB.no] 26)
        have lZAAB := hZA.2.2
        replace hZA := hZA.alloc (.cells #[.string mAB.s, .bool mAB.hp, .string mAB.p, .int .i32 mAB.px, .string mAB.an, .bool mAB.ht, .bool mAB.ha, .int .i64 mAB.ta, .int .i64 mAB.aa, .bool mAB.hn, .int .i64 mAB.no] 26)
        have lZBAB := hZB.2.2
        replace hZB := hZB.alloc (.cells #[.string mAB.s, .bool mAB.hp, .string mAB.p, .int .i32 mAB.px, .string mAB.an, .bool mAB.ht, .bool mAB.ha, .int .i64 mAB.ta, .int .i64 mAB.aa, .bool mAB.hn, .int .i64 mAB.no] 26)
        have lZCAB := hZC.2.2
        replace hZC := hZC.alloc (.cells #[.string mAB.s, .bool mAB.hp, .string mAB.p, .int .i32 mAB.px, .string mAB.an, .bool mAB.ht, .bool mAB.ha, .int .i64 mAB.ta, .int .i64 mAB.aa, .bool mAB.hn, .int .i64 mAB.no] 26)
        have lLFAB := hLF.2.2
        replace hLF := hLF.alloc (.cells #[.string mAB.s, .bool mAB.hp, .string mAB.p, .int .i32 mAB.px, .string mAB.an, .bool mAB.ht, .bool mAB.ha, .int .i64 mAB.ta, .int .i64 mAB.aa, .bool mAB.hn, .int .i64 mAB.no] 26)
        have hAB := QS.made wAB #[.string mAB.s, .bool mAB.hp, .string mAB.p, .int .i32 mAB.px, .string mAB.an, .bool mAB.ht, .bool mAB.ha, .int .i64 mAB.ta, .int .i64 mAB.aa, .bool mAB.hn, .int .i64 mAB.no] 26
        go_upto_region 25 with fail
        skip
        generalize wAB.alloc (.cells #[.string mAB.s, .bool mAB.hp, .string mAB.p, .int .i32 mAB.px, .string mAB.an, .bool mAB.ht, .bool mAB.ha, .int .i64 mAB.ta, .int .i64 mAB.aa, .bool mAB.hn, .int .i64 mAB.no] 26) = v8AB at hbw hZA hZB hZC hLF hAB ⊢
        clear hAB
        clear hLF
        replace hbw := hbw.alloc hbw.size (.cells #[.string ⟨#[]⟩, .bool false, .string ⟨#[]⟩, .int .i32 0, .string ⟨#[]⟩, .bool false, .bool false, .int .i64 0, .int .i64 0, .bool false, .int .i64 0] 26)
        replace hZA := hZA.alloc (.cells #[.string ⟨#[]⟩, .bool false, .string ⟨#[]⟩, .int .i32 0, .string ⟨#[]⟩, .bool false, .bool false, .int .i64 0, .int .i64 0, .bool false, .int .i64 0] 26)
        replace hZB := hZB.alloc (.cells #[.string ⟨#[]⟩, .bool false, .string ⟨#[]⟩, .int .i32 0, .string ⟨#[]⟩, .bool false, .bool false, .int .i64 0, .int .i64 0, .bool false, .int .i64 0] 26)
        replace hZC := hZC.alloc (.cells #[.string ⟨#[]⟩, .bool false, .string ⟨#[]⟩, .int .i32 0, .string ⟨#[]⟩, .bool false, .bool false, .int .i64 0, .int .i64 0, .bool false, .int .i64 0] 26)
        go_upto_region 27 with fail
        generalize v8AB.alloc (.cells #[.string ⟨#[]⟩, .bool false, .string ⟨#[]⟩, .int .i32 0, .string ⟨#[]⟩, .bool false, .bool false, .int .i64 0, .int .i64 0, .bool false, .int .i64 0] 26) = vrt at hbw hZA hZB hZC ⊢
        obtain ⟨qZB, qZBf, qZBl⟩ := QS.out hZB
        obtain ⟨qZC, qZCf, qZCl⟩ := QS.out hZC
        go_wp2_with fail
        refine (mergeYes b c _ hbc).mono ?_
        rintro e wBC ⟨mBC, rfl, hmBC, hb⟩
        clear qZB qZBf qZBl qZC qZCf qZCl
        replace hbw := hbw.trans (hb.mono hbw.size)
        replace hZA := QS.keep hb hZA
        replace hZB := QS.keep hb hZB
        replace hZC := QS.keep hb hZC
        clear hb
        replace hbw := hbw.alloc hbw.size (.cells #[.string mBC.s, .bool mBC.hp, .string mBC.p, .int .i32 mBC.px, .string mBC.an, .bool mBC.ht, .bool mBC.ha, .int .i64 mBC.ta, .int .i64 mBC.aa, .bool mBC.hn, .int .i64 mBC.no] 26)
        have lZABC := hZA.2.2
        replace hZA := hZA.alloc (.cells #[.string mBC.s, .bool mBC.hp, .string mBC.p, .int .i32 mBC.px, .string mBC.an, .bool mBC.ht, .bool mBC.ha, .int .i64 mBC.ta, .int .i64 mBC.aa, .bool mBC.hn, .int .i64 mBC.no] 26)
        have lZBBC := hZB.2.2
        replace hZB := hZB.alloc (.cells #[.string mBC.s, .bool mBC.hp, .string mBC.p, .int .i32 mBC.px, .string mBC.an, .bool mBC.ht, .bool mBC.ha, .int .i64 mBC.ta, .int .i64 mBC.aa, .bool mBC.hn, .int .i64 mBC.no] 26)
        have lZCBC := hZC.2.2
        replace hZC := hZC.alloc (.cells #[.string mBC.s, .bool mBC.hp, .string mBC.p, .int .i32 mBC.px, .string mBC.an, .bool mBC.ht, .bool mBC.ha, .int .i64 mBC.ta, .int .i64 mBC.aa, .bool mBC.hn, .int .i64 mBC.no] 26)
        have hBC := QS.made wBC #[.string mBC.s, .bool mBC.hp, .string mBC.p, .int .i32 mBC.px, .string mBC.an, .bool mBC.ht, .bool mBC.ha, .int .i64 mBC.ta, .int .i64 mBC.aa, .bool mBC.hn, .int .i64 mBC.no] 26
        go_upto_region 29 with fail
        skip
        generalize wBC.alloc (.cells #[.string mBC.s, .bool mBC.hp, .string mBC.p, .int .i32 mBC.px, .string mBC.an, .bool mBC.ht, .bool mBC.ha, .int .i64 mBC.ta, .int .i64 mBC.aa, .bool mBC.hn, .int .i64 mBC.no] 26) = v9BC at hbw hZA hZB hZC hBC ⊢
        obtain ⟨qBC, qBCf, qBCl⟩ := QS.out hBC
        obtain ⟨qZA, qZAf, qZAl⟩ := QS.out hZA
        go_wp2_with fail
        refine (mergeNo a mBC _ (by have e : mBC = mg b c := hmBC; rw [e]; exact no_ab a b c hab hbc)).mono ?_
        rintro e wRR ⟨mRR, mRRx, rfl, hmRR, hb⟩
        clear qBC qBCf qBCl qZA qZAf qZAl
        replace hbw := hbw.trans (hb.mono hbw.size)
        replace hZA := QS.keep hb hZA
        replace hZB := QS.keep hb hZB
        replace hZC := QS.keep hb hZC
        replace hBC := QS.keep hb hBC
        clear hb
        replace hbw := hbw.alloc hbw.size (.cells #[.string mRR.s, .bool mRR.hp, .string mRR.p, .int .i32 mRR.px, .string mRR.an, .bool mRR.ht, .bool mRR.ha, .int .i64 mRR.ta, .int .i64 mRR.aa, .bool mRR.hn, .int .i64 mRR.no] 26)
        have lZARR := hZA.2.2
        replace hZA := hZA.alloc (.cells #[.string mRR.s, .bool mRR.hp, .string mRR.p, .int .i32 mRR.px, .string mRR.an, .bool mRR.ht, .bool mRR.ha, .int .i64 mRR.ta, .int .i64 mRR.aa, .bool mRR.hn, .int .i64 mRR.no] 26)
        have lZBRR := hZB.2.2
        replace hZB := hZB.alloc (.cells #[.string mRR.s, .bool mRR.hp, .string mRR.p, .int .i32 mRR.px, .string mRR.an, .bool mRR.ht, .bool mRR.ha, .int .i64 mRR.ta, .int .i64 mRR.aa, .bool mRR.hn, .int .i64 mRR.no] 26)
        have lZCRR := hZC.2.2
        replace hZC := hZC.alloc (.cells #[.string mRR.s, .bool mRR.hp, .string mRR.p, .int .i32 mRR.px, .string mRR.an, .bool mRR.ht, .bool mRR.ha, .int .i64 mRR.ta, .int .i64 mRR.aa, .bool mRR.hn, .int .i64 mRR.no] 26)
        have lBCRR := hBC.2.2
        replace hBC := hBC.alloc (.cells #[.string mRR.s, .bool mRR.hp, .string mRR.p, .int .i32 mRR.px, .string mRR.an, .bool mRR.ht, .bool mRR.ha, .int .i64 mRR.ta, .int .i64 mRR.aa, .bool mRR.hn, .int .i64 mRR.no] 26)
        have hRR := QS.made wRR #[.string mRR.s, .bool mRR.hp, .string mRR.p, .int .i32 mRR.px, .string mRR.an, .bool mRR.ht, .bool mRR.ha, .int .i64 mRR.ta, .int .i64 mRR.aa, .bool mRR.hn, .int .i64 mRR.no] 26
        go_upto_region 33 with fail
        skip
        generalize wRR.alloc (.cells #[.string mRR.s, .bool mRR.hp, .string mRR.p, .int .i32 mRR.px, .string mRR.an, .bool mRR.ht, .bool mRR.ha, .int .i64 mRR.ta, .int .i64 mRR.aa, .bool mRR.hn, .int .i64 mRR.no] 26) = v10RR at hbw hZA hZB hZC hBC hRR ⊢
        go_wp2
        go_ret
        exact ⟨rfl, hbw⟩
    · as_aux_lemma =>
        obtain ⟨qZA, qZAf, qZAl⟩ := QS.out hZA
        obtain ⟨qZB, qZBf, qZBl⟩ := QS.out hZB
        go_wp2_with fail
        refine (mergeNo a b _ hab).mono ?_
        rintro e wAB ⟨mAB, mABx, rfl, hmAB, hb⟩
        clear qZA qZAf qZAl qZB qZBf qZBl
        replace hbw := hbw.trans (hb.mono hbw.size)
        replace hZA := QS.keep hb hZA
        replace hZB := QS.keep hb hZB
        replace hZC := QS.keep hb hZC
        replace hLF := QS.keep hb hLF
        clear hb
        replace hbw := hbw.alloc hbw.size (.cells #[.string mAB.s, .bool mAB.hp, .string mAB.p, .int .i32 mAB.px, .string mAB.an, .bool mAB.ht, .bool mAB.ha, .int .i64 mAB.ta, .int .i64 mAB.aa, .bool mAB.hn, .int .i64 mAB.no] 26)
        have lZAAB := hZA.2.2
        replace hZA := hZA.alloc (.cells #[.string mAB.s, .bool mAB.hp, .string mAB.p, .int .i32 mAB.px, .string mAB.an, .bool mAB.ht, .bool mAB.ha, .int .i64 mAB.ta, .int .i64 mAB.aa, .bool mAB.hn, .int .i64 mAB.no] 26)
        have lZBAB := hZB.2.2
        replace hZB := hZB.alloc (.cells #[.string mAB.s, .bool mAB.hp, .string mAB.p, .int .i32 mAB.px, .string mAB.an, .bool mAB.ht, .bool mAB.ha, .int .i64 mAB.ta, .int .i64 mAB.aa, .bool mAB.hn, .int .i64 mAB.no] 26)
        have lZCAB := hZC.2.2
        replace hZC := hZC.alloc (.cells #[.string mAB.s, .bool mAB.hp, .string mAB.p, .int .i32 mAB.px, .string mAB.an, .bool mAB.ht, .bool mAB.ha, .int .i64 mAB.ta, .int .i64 mAB.aa, .bool mAB.hn, .int .i64 mAB.no] 26)
        have lLFAB := hLF.2.2
        replace hLF := hLF.alloc (.cells #[.string mAB.s, .bool mAB.hp, .string mAB.p, .int .i32 mAB.px, .string mAB.an, .bool mAB.ht, .bool mAB.ha, .int .i64 mAB.ta, .int .i64 mAB.aa, .bool mAB.hn, .int .i64 mAB.no] 26)
        have hAB := QS.made wAB #[.string mAB.s, .bool mAB.hp, .string mAB.p, .int .i32 mAB.px, .string mAB.an, .bool mAB.ht, .bool mAB.ha, .int .i64 mAB.ta, .int .i64 mAB.aa, .bool mAB.hn, .int .i64 mAB.no] 26
        go_upto_region 25 with fail
        skip
        generalize wAB.alloc (.cells #[.string mAB.s, .bool mAB.hp, .string mAB.p, .int .i32 mAB.px, .string mAB.an, .bool mAB.ht, .bool mAB.ha, .int .i64 mAB.ta, .int .i64 mAB.aa, .bool mAB.hn, .int .i64 mAB.no] 26) = v8AB at hbw hZA hZB hZC hLF hAB ⊢
        clear hAB
        clear hLF
        replace hbw := hbw.alloc hbw.size (.cells #[.string ⟨#[]⟩, .bool false, .string ⟨#[]⟩, .int .i32 0, .string ⟨#[]⟩, .bool false, .bool false, .int .i64 0, .int .i64 0, .bool false, .int .i64 0] 26)
        replace hZA := hZA.alloc (.cells #[.string ⟨#[]⟩, .bool false, .string ⟨#[]⟩, .int .i32 0, .string ⟨#[]⟩, .bool false, .bool false, .int .i64 0, .int .i64 0, .bool false, .int .i64 0] 26)
        replace hZB := hZB.alloc (.cells #[.string ⟨#[]⟩, .bool false, .string ⟨#[]⟩, .int .i32 0, .string ⟨#[]⟩, .bool false, .bool false, .int .i64 0, .int .i64 0, .bool false, .int .i64 0] 26)
        replace hZC := hZC.alloc (.cells #[.string ⟨#[]⟩, .bool false, .string ⟨#[]⟩, .int .i32 0, .string ⟨#[]⟩, .bool false, .bool false, .int .i64 0, .int .i64 0, .bool false, .int .i64 0] 26)
        go_upto_region 27 with fail
        generalize v8AB.alloc (.cells #[.string ⟨#[]⟩, .bool false, .string ⟨#[]⟩, .int .i32 0, .string ⟨#[]⟩, .bool false, .bool false, .int .i64 0, .int .i64 0, .bool false, .int .i64 0] 26) = vrt at hbw hZA hZB hZC ⊢
        obtain ⟨qZB, qZBf, qZBl⟩ := QS.out hZB
        obtain ⟨qZC, qZCf, qZCl⟩ := QS.out hZC
        go_wp2_with fail
        refine (mergeNo b c _ hbc).mono ?_
        rintro e wBC ⟨mBC, mBCx, rfl, hmBC, hb⟩
        clear qZB qZBf qZBl qZC qZCf qZCl
        replace hbw := hbw.trans (hb.mono hbw.size)
        replace hZA := QS.keep hb hZA
        replace hZB := QS.keep hb hZB
        replace hZC := QS.keep hb hZC
        clear hb
        replace hbw := hbw.alloc hbw.size (.cells #[.string mBC.s, .bool mBC.hp, .string mBC.p, .int .i32 mBC.px, .string mBC.an, .bool mBC.ht, .bool mBC.ha, .int .i64 mBC.ta, .int .i64 mBC.aa, .bool mBC.hn, .int .i64 mBC.no] 26)
        have lZABC := hZA.2.2
        replace hZA := hZA.alloc (.cells #[.string mBC.s, .bool mBC.hp, .string mBC.p, .int .i32 mBC.px, .string mBC.an, .bool mBC.ht, .bool mBC.ha, .int .i64 mBC.ta, .int .i64 mBC.aa, .bool mBC.hn, .int .i64 mBC.no] 26)
        have lZBBC := hZB.2.2
        replace hZB := hZB.alloc (.cells #[.string mBC.s, .bool mBC.hp, .string mBC.p, .int .i32 mBC.px, .string mBC.an, .bool mBC.ht, .bool mBC.ha, .int .i64 mBC.ta, .int .i64 mBC.aa, .bool mBC.hn, .int .i64 mBC.no] 26)
        have lZCBC := hZC.2.2
        replace hZC := hZC.alloc (.cells #[.string mBC.s, .bool mBC.hp, .string mBC.p, .int .i32 mBC.px, .string mBC.an, .bool mBC.ht, .bool mBC.ha, .int .i64 mBC.ta, .int .i64 mBC.aa, .bool mBC.hn, .int .i64 mBC.no] 26)
        have hBC := QS.made wBC #[.string mBC.s, .bool mBC.hp, .string mBC.p, .int .i32 mBC.px, .string mBC.an, .bool mBC.ht, .bool mBC.ha, .int .i64 mBC.ta, .int .i64 mBC.aa, .bool mBC.hn, .int .i64 mBC.no] 26
        go_upto_region 33 with fail
        skip
        generalize wBC.alloc (.cells #[.string mBC.s, .bool mBC.hp, .string mBC.p, .int .i32 mBC.px, .string mBC.an, .bool mBC.ht, .bool mBC.ha, .int .i64 mBC.ta, .int .i64 mBC.aa, .bool mBC.hn, .int .i64 mBC.no] 26) = v9BC at hbw hZA hZB hZC hBC ⊢
        go_wp2
        go_ret
        exact ⟨rfl, hbw⟩
end Go.Proofs.Qxb6002391a

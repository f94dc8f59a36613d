import Derived.Test.Qxb6002391aF
import Derived.Deep.RegionHeld
namespace Go.Proofs.Qxb6002391a
open Go.RowKit
set_option linter.unusedSimpArgs false
set_option linter.unusedVariables false

theorem pk_true {α : Type} (x y : α) : pk true x y = x := rfl
theorem pk_false {α : Type} (x y : α) : pk false x y = y := rfl
theorem pk_pre {α : Type} (c : Bool) (x y : α) : c = true → pk c x y = x := by rintro rfl; rfl
theorem QS.made (X : World) (c : Array Value) (t : TypeId) : QS c X.heap.size (X.alloc (.cells c t)) := QS.new (Below.refl _ _)
theorem QS.alloc {c : Array Value} {q : Nat} {X : World} (h : QS c q X) (o : Obj) : QS c q (X.alloc o) := QS.keep ((Below.refl _ _).alloc (Nat.le_refl _) _) h

theorem three {c1 c2 c3 : Array Value} {q1 q2 q3 : Nat} {v : World} (h1 : QS c1 q1 v) (h2 : QS c2 q2 v) (h3 : QS c3 q3 v) :
    (∀ j, v.cell? ⟨q1, j, none⟩ = c1[j]?) ∧ (∀ j, v.cell? ⟨q2, j, none⟩ = c2[j]?) ∧ (∀ j, v.cell? ⟨q3, j, none⟩ = c3[j]?) ∧ q1 < v.heap.size ∧ q2 < v.heap.size ∧ q3 < v.heap.size := ⟨h1.1, h2.1, h3.1, h1.2.2, h2.2.2, h3.2.2⟩
theorem three_drew {c1 c2 c3 : Array Value} {q1 q2 q3 : Nat} {v : World} (h1 : QS c1 q1 v) (h2 : QS c2 q2 v) (h3 : QS c3 q3 v) :
    (∀ j, v.drew.cell? ⟨q1, j, none⟩ = c1[j]?) ∧ (∀ j, v.drew.cell? ⟨q2, j, none⟩ = c2[j]?) ∧ (∀ j, v.drew.cell? ⟨q3, j, none⟩ = c3[j]?) ∧ q1 < v.drew.heap.size ∧ q2 < v.drew.heap.size ∧ q3 < v.drew.heap.size := three h1 h2 h3

set_option maxRecDepth 100000 in
set_option maxHeartbeats 8000000 in
theorem spec_walk (a_s : ByteArray) (ahp : Bool) (ap : ByteArray) (apx : Int) (aan : ByteArray) (aht aha : Bool) (ata aaa : Int) (ahn : Bool) (ano : Int)
    (bs : ByteArray) (bhp : Bool) (bp : ByteArray) (bpx : Int) (ban : ByteArray) (bht bha : Bool) (bta baa : Int) (bhn : Bool) (bno : Int) (w : World)
    (k1 : a_s.size ≤ maxLen) (k2 : ap.size ≤ maxLen) (k3 : aan.size ≤ maxLen) (k4 : bs.size ≤ maxLen) (k5 : bp.size ≤ maxLen) (k6 : ban.size ≤ maxLen) :
    Calls Try.prog 3 #[zv a_s ahp ap apx aan aht aha ata aaa ahn ano, zv bs bhp bp bpx ban bht bha bta baa bhn bno] w fun e w' => e = .returned (.bool true) ∧ Below w.heap.size w w' := by
  go_enter Try.func3, Try.ntmps3
  go_upto_region 0 with fail
  go_cut [2, 3, 4] from 5 (fun s2 s3 s4 wc => s2 = .pointer (some ⟨w.heap.size, 0, none⟩) ∧ s3 = .pointer (some ⟨w.heap.size + 1, 0, none⟩) ∧ s4 = .bool false ∧ Below w.heap.size w wc ∧ QS #[.string a_s, .bool ahp, .string ap, .int .i32 apx, .string aan, .bool aht, .bool aha, .int .i64 ata, .int .i64 aaa, .bool ahn, .int .i64 ano] w.heap.size wc ∧ QS #[.string bs, .bool bhp, .string bp, .int .i32 bpx, .string ban, .bool bht, .bool bha, .int .i64 bta, .int .i64 baa, .bool bhn, .int .i64 bno] (w.heap.size + 1) wc)
  case first =>
    go_wp2_with fail
    go_meet
    case rel =>
      refine ⟨rfl, rfl, rfl, ((Below.refl _ _).alloc (Nat.le_refl _) _).alloc (by simp) _, (QS.made w _ _).alloc _, ?_⟩
      have := QS.made (w.alloc (.cells #[.string a_s, .bool ahp, .string ap, .int .i32 apx, .string aan, .bool aht, .bool aha, .int .i64 ata, .int .i64 aaa, .bool ahn, .int .i64 ano] 23)) #[.string bs, .bool bhp, .string bp, .int .i32 bpx, .string ban, .bool bht, .bool bha, .int .i64 bta, .int .i64 baa, .bool bhn, .int .i64 bno] 23
      simp only [World.size_alloc] at this
      exact this
  case rest =>
    obtain ⟨rfl, rfl, rfl, hbw, hA, hB⟩ := hcut
    obtain ⟨qa, qaf, qal⟩ := QS.out hA
    obtain ⟨qb, qbf, qbl⟩ := QS.out hB
    go_wp2_with fail
    refine (zzb6_any a_s ahp ap apx aan aht aha ata aaa ahn ano bs bhp bp bpx ban bht bha bta baa bhn bno _ k1 k2 k3 k4 k5 k6).mono ?_
    rintro e w1 ⟨⟨bo, rfl, hbo⟩, hb1⟩
    replace hbw := hbw.trans (hb1.mono hbw.size)
    replace hA := QS.keep hb1 hA
    replace hB := QS.keep hb1 hB
    clear qa qaf qal qb qbf qbl hb1
    obtain ⟨qa, qaf, qal⟩ := QS.out hA
    obtain ⟨qb, qbf, qbl⟩ := QS.out hB
    cases bo with
    | false =>
      go_wp2
      go_ret
      exact ⟨rfl, hbw⟩
    | true =>
      have hsum := hbo rfl
      clear hbo k1 k2 k3 k4 k5 k6
      have hd1 : decide ((1048576 : Int) < (a_s.size : Int) + (ap.size : Int) + (aan.size : Int)) = false := by simp; omega
      have hd2 : decide ((1048576 : Int) < (bs.size : Int) + (bp.size : Int) + (ban.size : Int)) = false := by simp; omega
      have hd3 : decide ((1048576 : Int) < (a_s.size : Int) + (ap.size : Int) + (aan.size : Int) + ((bs.size : Int) + (bp.size : Int) + (ban.size : Int))) = false := by simp; omega
      have HD : Hid (decide ((1048576 : Int) < IntKind.i64.wrap ((a_s.size : Int) + (ap.size : Int) + (aan.size : Int) + ((bs.size : Int) + (bp.size : Int) + (ban.size : Int)))) = false) := by
        show decide _ = false
        rw [IntWalk.i64_in _ ⟨by omega, by omega⟩]
        exact hd3
      go_upto_region 3 with fail
      go_cut [31] from 5 (fun s31 wd => s31 = .bool false ∧ Below w.heap.size w wd ∧ QS #[.string a_s, .bool ahp, .string ap, .int .i32 apx, .string aan, .bool aht, .bool aha, .int .i64 ata, .int .i64 aaa, .bool ahn, .int .i64 ano] w.heap.size wd ∧ QS #[.string bs, .bool bhp, .string bp, .int .i32 bpx, .string ban, .bool bht, .bool bha, .int .i64 bta, .int .i64 baa, .bool bhn, .int .i64 bno] (w.heap.size + 1) wd)
      case first =>
        go_region_with (first
          | (go_at_call 7; refine (bytes_calls _ _ _ _ _ _ _ _ _ _ _ _ ?_ ?_ ?_).mono ?_; omega; omega; omega; rintro e w' ⟨rfl, hb⟩; (first | (have hbw := hbw.trans (hb.mono hbw.size); have hA := QS.keep hb hA; have hB := QS.keep hb hB) | (have hb := below_of_drew hb; have hbw := hbw.trans (hb.mono hbw.size); have hA := QS.keep hb hA; have hB := QS.keep hb hB)); obtain ⟨qa, qaf, qal⟩ := QS.out hA; obtain ⟨qb, qbf, qbl⟩ := QS.out hB))
        all_goals
          go_wp2_with fail
          go_meet
          case rel => exact ⟨by first | rfl | (rw [HD.out]), hbw, hA, hB⟩
      case rest =>
        clear hbw hA hB qa qaf qal qb qbf qbl
        obtain ⟨rfl, hbw, hA, hB⟩ := hcut
        obtain ⟨qa, qaf, qal⟩ := QS.out hA
        obtain ⟨qb, qbf, qbl⟩ := QS.out hB
        clear hd1 hd2 hd3
        go_wp2_with fail
        refine (toZZ_calls a_s ahp ap apx aan aht aha ata aaa ahn ano _).mono ?_
        rintro e w2 ⟨rfl, hb2⟩
        replace hbw := hbw.trans (hb2.mono hbw.size)
        replace hA := (QS.keep hb2 hA).alloc (.cells #[.string a_s, .bool ahp, .string ap, .int .i32 apx, .string aan, .bool aht, .bool aha, .int .i64 ata, .int .i64 aaa, .bool ahn, .int .i64 ano] 26)
        replace hB := (QS.keep hb2 hB).alloc (.cells #[.string a_s, .bool ahp, .string ap, .int .i32 apx, .string aan, .bool aht, .bool aha, .int .i64 ata, .int .i64 aaa, .bool ahn, .int .i64 ano] 26)
        have hZA := QS.made w2 #[.string a_s, .bool ahp, .string ap, .int .i32 apx, .string aan, .bool aht, .bool aha, .int .i64 ata, .int .i64 aaa, .bool ahn, .int .i64 ano] 26
        replace hbw := hbw.alloc hbw.size (.cells #[.string a_s, .bool ahp, .string ap, .int .i32 apx, .string aan, .bool aht, .bool aha, .int .i64 ata, .int .i64 aaa, .bool ahn, .int .i64 ano] 26)
        clear qa qaf qal qb qbf qbl hb2
        obtain ⟨qa, qaf, qal⟩ := QS.out hA
        obtain ⟨qb, qbf, qbl⟩ := QS.out hB
        go_wp2_with fail
        refine (toZZ_calls bs bhp bp bpx ban bht bha bta baa bhn bno _).mono ?_
        rintro e w3 ⟨rfl, hb3⟩
        replace hbw := hbw.trans (hb3.mono hbw.size)
        replace hA := (QS.keep hb3 hA).alloc (.cells #[.string bs, .bool bhp, .string bp, .int .i32 bpx, .string ban, .bool bht, .bool bha, .int .i64 bta, .int .i64 baa, .bool bhn, .int .i64 bno] 26)
        replace hB := (QS.keep hb3 hB).alloc (.cells #[.string bs, .bool bhp, .string bp, .int .i32 bpx, .string ban, .bool bht, .bool bha, .int .i64 bta, .int .i64 baa, .bool bhn, .int .i64 bno] 26)
        replace hZA := (QS.keep hb3 hZA).alloc (.cells #[.string bs, .bool bhp, .string bp, .int .i32 bpx, .string ban, .bool bht, .bool bha, .int .i64 bta, .int .i64 baa, .bool bhn, .int .i64 bno] 26)
        have hZB := QS.made w3 #[.string bs, .bool bhp, .string bp, .int .i32 bpx, .string ban, .bool bht, .bool bha, .int .i64 bta, .int .i64 baa, .bool bhn, .int .i64 bno] 26
        replace hbw := hbw.alloc hbw.size (.cells #[.string bs, .bool bhp, .string bp, .int .i32 bpx, .string ban, .bool bht, .bool bha, .int .i64 bta, .int .i64 baa, .bool bhn, .int .i64 bno] 26)
        clear qa qaf qal qb qbf qbl hb3
        obtain ⟨qza, qzaf, qzal⟩ := QS.out hZA
        obtain ⟨qzb, qzbf, qzbl⟩ := QS.out hZB
        go_wp2_with fail
        cases aht
        all_goals cases bht
        all_goals cases aha
        all_goals cases bha
        · as_aux_lemma =>
            refine (zzmerge_ok _ _ _ _ _ _ _ _ _ _ _ _ _ _ _ _ _ _ _ _ _ _ _ rfl rfl).mono ?_
            rintro e w4 ⟨rfl, hb⟩
            simp only [pk_true, pk_false]
            replace hbw := (hbw.trans (hb.mono hbw.size))
            replace hbw := hbw.alloc hbw.size (.cells #[.string a_s, .bool ahp, .string (pk ahp ap ⟨#[]⟩), .int .i32 apx, .string aan, .bool false, .bool false, .int .i64 ata, .int .i64 aaa, .bool ahn, .int .i64 (pk ahn ano 0)] 26)
            replace hA := (QS.keep hb hA).alloc (.cells #[.string a_s, .bool ahp, .string (pk ahp ap ⟨#[]⟩), .int .i32 apx, .string aan, .bool false, .bool false, .int .i64 ata, .int .i64 aaa, .bool ahn, .int .i64 (pk ahn ano 0)] 26)
            replace hB := (QS.keep hb hB).alloc (.cells #[.string a_s, .bool ahp, .string (pk ahp ap ⟨#[]⟩), .int .i32 apx, .string aan, .bool false, .bool false, .int .i64 ata, .int .i64 aaa, .bool ahn, .int .i64 (pk ahn ano 0)] 26)
            replace hZA := (QS.keep hb hZA).alloc (.cells #[.string a_s, .bool ahp, .string (pk ahp ap ⟨#[]⟩), .int .i32 apx, .string aan, .bool false, .bool false, .int .i64 ata, .int .i64 aaa, .bool ahn, .int .i64 (pk ahn ano 0)] 26)
            replace hZB := (QS.keep hb hZB).alloc (.cells #[.string a_s, .bool ahp, .string (pk ahp ap ⟨#[]⟩), .int .i32 apx, .string aan, .bool false, .bool false, .int .i64 ata, .int .i64 aaa, .bool ahn, .int .i64 (pk ahn ano 0)] 26)
            have hM := QS.made w4 #[.string a_s, .bool ahp, .string (pk ahp ap ⟨#[]⟩), .int .i32 apx, .string aan, .bool false, .bool false, .int .i64 ata, .int .i64 aaa, .bool ahn, .int .i64 (pk ahn ano 0)] 26
            clear qza qzaf qzal qzb qzbf qzbl hb
            obtain ⟨qa, qaf, qal⟩ := QS.out hA; obtain ⟨qb, qbf, qbl⟩ := QS.out hB; obtain ⟨qza, qzaf, qzal⟩ := QS.out hZA; obtain ⟨qzb, qzbf, qzbl⟩ := QS.out hZB; obtain ⟨qm, qmf, qml⟩ := QS.out hM
            go_wp2_with (first
              | (go_at_call 10; refine (sameTag_yes _ _ _ _ _ _ _ _ _ _ _ _ _ _ _ _ _ _ _ (pk_pre _ _ _)).mono ?_; rintro e w5 ⟨rfl, hb⟩; have hbw := hbw.trans (hb.mono hbw.size); have hA := QS.keep hb hA; have hB := QS.keep hb hB; have hZA := QS.keep hb hZA; have hZB := QS.keep hb hZB; have hM := QS.keep hb hM; obtain ⟨qa, qaf, qal⟩ := QS.out hA; obtain ⟨qb, qbf, qbl⟩ := QS.out hB; obtain ⟨qza, qzaf, qzal⟩ := QS.out hZA; obtain ⟨qzb, qzbf, qzbl⟩ := QS.out hZB; obtain ⟨qm, qmf, qml⟩ := QS.out hM)
              | (go_at_call 11; refine (sameAnchor_yes _ _ _ _ _ _ _ _ _ _ _ _ _ _ _ _ _ _ _ _ (pk_pre _ _ _)).mono ?_; rintro e w5 ⟨rfl, hb⟩; have hbw := hbw.trans (hb.mono hbw.size); have hA := QS.keep hb hA; have hB := QS.keep hb hB; have hZA := QS.keep hb hZA; have hZB := QS.keep hb hZB; have hM := QS.keep hb hM; obtain ⟨qa, qaf, qal⟩ := QS.out hA; obtain ⟨qb, qbf, qbl⟩ := QS.out hB; obtain ⟨qza, qzaf, qzal⟩ := QS.out hZA; obtain ⟨qzb, qzbf, qzbl⟩ := QS.out hZB; obtain ⟨qm, qmf, qml⟩ := QS.out hM)
              | (go_at_call 12; refine (sameNode_yes _ _ _ _ _ _ _ _ _ _ _ _ _ _ _ _ _ _ _ _ _ _ (pk_pre _ _ _)).mono ?_; rintro e w5 ⟨rfl, hb⟩; have hbw := hbw.trans (hb.mono hbw.size); have hA := QS.keep hb hA; have hB := QS.keep hb hB; have hZA := QS.keep hb hZA; have hZB := QS.keep hb hZB; have hM := QS.keep hb hM; obtain ⟨qa, qaf, qal⟩ := QS.out hA; obtain ⟨qb, qbf, qbl⟩ := QS.out hB; obtain ⟨qza, qzaf, qzal⟩ := QS.out hZA; obtain ⟨qzb, qzbf, qzbl⟩ := QS.out hZB; obtain ⟨qm, qmf, qml⟩ := QS.out hM)
              | (go_at_call 13; refine (set_calls _ _ _ _ _ _ _ _ _ _ _ _).mono ?_; rintro e w5 ⟨rfl, hb⟩; have hbw := hbw.trans (hb.mono hbw.size); have hA := QS.keep hb hA; have hB := QS.keep hb hB; have hZA := QS.keep hb hZA; have hZB := QS.keep hb hZB; have hM := QS.keep hb hM; obtain ⟨qa, qaf, qal⟩ := QS.out hA; obtain ⟨qb, qbf, qbl⟩ := QS.out hB; obtain ⟨qza, qzaf, qzal⟩ := QS.out hZA; obtain ⟨qzb, qzbf, qzbl⟩ := QS.out hZB; obtain ⟨qm, qmf, qml⟩ := QS.out hM))
            go_ret
            exact ⟨rfl, hbw⟩
        · as_aux_lemma =>
            refine (zzmerge_ok _ _ _ _ _ _ _ _ _ _ _ _ _ _ _ _ _ _ _ _ _ _ _ rfl rfl).mono ?_
            rintro e w4 ⟨rfl, hb⟩
            simp only [pk_true, pk_false]
            replace hbw := (hbw.trans (hb.mono hbw.size))
            replace hbw := hbw.alloc hbw.size (.cells #[.string a_s, .bool ahp, .string (pk ahp ap ⟨#[]⟩), .int .i32 apx, .string ban, .bool false, .bool true, .int .i64 ata, .int .i64 baa, .bool bhn, .int .i64 (pk bhn bno 0)] 26)
            replace hA := (QS.keep hb hA).alloc (.cells #[.string a_s, .bool ahp, .string (pk ahp ap ⟨#[]⟩), .int .i32 apx, .string ban, .bool false, .bool true, .int .i64 ata, .int .i64 baa, .bool bhn, .int .i64 (pk bhn bno 0)] 26)
            replace hB := (QS.keep hb hB).alloc (.cells #[.string a_s, .bool ahp, .string (pk ahp ap ⟨#[]⟩), .int .i32 apx, .string ban, .bool false, .bool true, .int .i64 ata, .int .i64 baa, .bool bhn, .int .i64 (pk bhn bno 0)] 26)
            replace hZA := (QS.keep hb hZA).alloc (.cells #[.string a_s, .bool ahp, .string (pk ahp ap ⟨#[]⟩), .int .i32 apx, .string ban, .bool false, .bool true, .int .i64 ata, .int .i64 baa, .bool bhn, .int .i64 (pk bhn bno 0)] 26)
            replace hZB := (QS.keep hb hZB).alloc (.cells #[.string a_s, .bool ahp, .string (pk ahp ap ⟨#[]⟩), .int .i32 apx, .string ban, .bool false, .bool true, .int .i64 ata, .int .i64 baa, .bool bhn, .int .i64 (pk bhn bno 0)] 26)
            have hM := QS.made w4 #[.string a_s, .bool ahp, .string (pk ahp ap ⟨#[]⟩), .int .i32 apx, .string ban, .bool false, .bool true, .int .i64 ata, .int .i64 baa, .bool bhn, .int .i64 (pk bhn bno 0)] 26
            clear qza qzaf qzal qzb qzbf qzbl hb
            obtain ⟨qa, qaf, qal⟩ := QS.out hA; obtain ⟨qb, qbf, qbl⟩ := QS.out hB; obtain ⟨qza, qzaf, qzal⟩ := QS.out hZA; obtain ⟨qzb, qzbf, qzbl⟩ := QS.out hZB; obtain ⟨qm, qmf, qml⟩ := QS.out hM
            go_wp2_with (first
              | (go_at_call 10; refine (sameTag_yes _ _ _ _ _ _ _ _ _ _ _ _ _ _ _ _ _ _ _ (pk_pre _ _ _)).mono ?_; rintro e w5 ⟨rfl, hb⟩; have hbw := hbw.trans (hb.mono hbw.size); have hA := QS.keep hb hA; have hB := QS.keep hb hB; have hZA := QS.keep hb hZA; have hZB := QS.keep hb hZB; have hM := QS.keep hb hM; obtain ⟨qa, qaf, qal⟩ := QS.out hA; obtain ⟨qb, qbf, qbl⟩ := QS.out hB; obtain ⟨qza, qzaf, qzal⟩ := QS.out hZA; obtain ⟨qzb, qzbf, qzbl⟩ := QS.out hZB; obtain ⟨qm, qmf, qml⟩ := QS.out hM)
              | (go_at_call 11; refine (sameAnchor_yes _ _ _ _ _ _ _ _ _ _ _ _ _ _ _ _ _ _ _ _ (pk_pre _ _ _)).mono ?_; rintro e w5 ⟨rfl, hb⟩; have hbw := hbw.trans (hb.mono hbw.size); have hA := QS.keep hb hA; have hB := QS.keep hb hB; have hZA := QS.keep hb hZA; have hZB := QS.keep hb hZB; have hM := QS.keep hb hM; obtain ⟨qa, qaf, qal⟩ := QS.out hA; obtain ⟨qb, qbf, qbl⟩ := QS.out hB; obtain ⟨qza, qzaf, qzal⟩ := QS.out hZA; obtain ⟨qzb, qzbf, qzbl⟩ := QS.out hZB; obtain ⟨qm, qmf, qml⟩ := QS.out hM)
              | (go_at_call 12; refine (sameNode_yes _ _ _ _ _ _ _ _ _ _ _ _ _ _ _ _ _ _ _ _ _ _ (pk_pre _ _ _)).mono ?_; rintro e w5 ⟨rfl, hb⟩; have hbw := hbw.trans (hb.mono hbw.size); have hA := QS.keep hb hA; have hB := QS.keep hb hB; have hZA := QS.keep hb hZA; have hZB := QS.keep hb hZB; have hM := QS.keep hb hM; obtain ⟨qa, qaf, qal⟩ := QS.out hA; obtain ⟨qb, qbf, qbl⟩ := QS.out hB; obtain ⟨qza, qzaf, qzal⟩ := QS.out hZA; obtain ⟨qzb, qzbf, qzbl⟩ := QS.out hZB; obtain ⟨qm, qmf, qml⟩ := QS.out hM)
              | (go_at_call 13; refine (set_calls _ _ _ _ _ _ _ _ _ _ _ _).mono ?_; rintro e w5 ⟨rfl, hb⟩; have hbw := hbw.trans (hb.mono hbw.size); have hA := QS.keep hb hA; have hB := QS.keep hb hB; have hZA := QS.keep hb hZA; have hZB := QS.keep hb hZB; have hM := QS.keep hb hM; obtain ⟨qa, qaf, qal⟩ := QS.out hA; obtain ⟨qb, qbf, qbl⟩ := QS.out hB; obtain ⟨qza, qzaf, qzal⟩ := QS.out hZA; obtain ⟨qzb, qzbf, qzbl⟩ := QS.out hZB; obtain ⟨qm, qmf, qml⟩ := QS.out hM))
            have em : atOf false true ata baa = baa := by simp [atOf]
            have ea : atOf false false ata aaa = aaa := by simp [atOf]
            have eb : atOf false true bta baa = baa := by simp [atOf]
            go_region_with (first
              | (go_at_call 14; refine (at_calls _ _ _ _ _ _ _ _ _ _ _ _).mono ?_; rintro e w5 ⟨rfl, hb⟩; (first | (have hbw := hbw.trans (hb.mono hbw.size); have hA := QS.keep hb hA; have hB := QS.keep hb hB; have hZA := QS.keep hb hZA; have hZB := QS.keep hb hZB; have hM := QS.keep hb hM) | (have hb := below_of_drew hb; have hbw := hbw.trans (hb.mono hbw.size); have hA := QS.keep hb hA; have hB := QS.keep hb hB; have hZA := QS.keep hb hZA; have hZB := QS.keep hb hZB; have hM := QS.keep hb hM)); obtain ⟨qa, qaf, qal⟩ := QS.out hA; obtain ⟨qb, qbf, qbl⟩ := QS.out hB; obtain ⟨qza, qzaf, qzal⟩ := QS.out hZA; obtain ⟨qzb, qzbf, qzbl⟩ := QS.out hZB; obtain ⟨qm, qmf, qml⟩ := QS.out hM))
            all_goals
              go_wp2
              go_ret
              exact ⟨by first | rfl | (simp; done) | (simp; omega), hbw⟩
        · as_aux_lemma =>
            refine (zzmerge_ok _ _ _ _ _ _ _ _ _ _ _ _ _ _ _ _ _ _ _ _ _ _ _ rfl rfl).mono ?_
            rintro e w4 ⟨rfl, hb⟩
            simp only [pk_true, pk_false]
            replace hbw := (hbw.trans (hb.mono hbw.size))
            replace hbw := hbw.alloc hbw.size (.cells #[.string a_s, .bool ahp, .string (pk ahp ap ⟨#[]⟩), .int .i32 apx, .string aan, .bool false, .bool true, .int .i64 ata, .int .i64 aaa, .bool ahn, .int .i64 (pk ahn ano 0)] 26)
            replace hA := (QS.keep hb hA).alloc (.cells #[.string a_s, .bool ahp, .string (pk ahp ap ⟨#[]⟩), .int .i32 apx, .string aan, .bool false, .bool true, .int .i64 ata, .int .i64 aaa, .bool ahn, .int .i64 (pk ahn ano 0)] 26)
            replace hB := (QS.keep hb hB).alloc (.cells #[.string a_s, .bool ahp, .string (pk ahp ap ⟨#[]⟩), .int .i32 apx, .string aan, .bool false, .bool true, .int .i64 ata, .int .i64 aaa, .bool ahn, .int .i64 (pk ahn ano 0)] 26)
            replace hZA := (QS.keep hb hZA).alloc (.cells #[.string a_s, .bool ahp, .string (pk ahp ap ⟨#[]⟩), .int .i32 apx, .string aan, .bool false, .bool true, .int .i64 ata, .int .i64 aaa, .bool ahn, .int .i64 (pk ahn ano 0)] 26)
            replace hZB := (QS.keep hb hZB).alloc (.cells #[.string a_s, .bool ahp, .string (pk ahp ap ⟨#[]⟩), .int .i32 apx, .string aan, .bool false, .bool true, .int .i64 ata, .int .i64 aaa, .bool ahn, .int .i64 (pk ahn ano 0)] 26)
            have hM := QS.made w4 #[.string a_s, .bool ahp, .string (pk ahp ap ⟨#[]⟩), .int .i32 apx, .string aan, .bool false, .bool true, .int .i64 ata, .int .i64 aaa, .bool ahn, .int .i64 (pk ahn ano 0)] 26
            clear qza qzaf qzal qzb qzbf qzbl hb
            obtain ⟨qa, qaf, qal⟩ := QS.out hA; obtain ⟨qb, qbf, qbl⟩ := QS.out hB; obtain ⟨qza, qzaf, qzal⟩ := QS.out hZA; obtain ⟨qzb, qzbf, qzbl⟩ := QS.out hZB; obtain ⟨qm, qmf, qml⟩ := QS.out hM
            go_wp2_with (first
              | (go_at_call 10; refine (sameTag_yes _ _ _ _ _ _ _ _ _ _ _ _ _ _ _ _ _ _ _ (pk_pre _ _ _)).mono ?_; rintro e w5 ⟨rfl, hb⟩; have hbw := hbw.trans (hb.mono hbw.size); have hA := QS.keep hb hA; have hB := QS.keep hb hB; have hZA := QS.keep hb hZA; have hZB := QS.keep hb hZB; have hM := QS.keep hb hM; obtain ⟨qa, qaf, qal⟩ := QS.out hA; obtain ⟨qb, qbf, qbl⟩ := QS.out hB; obtain ⟨qza, qzaf, qzal⟩ := QS.out hZA; obtain ⟨qzb, qzbf, qzbl⟩ := QS.out hZB; obtain ⟨qm, qmf, qml⟩ := QS.out hM)
              | (go_at_call 11; refine (sameAnchor_yes _ _ _ _ _ _ _ _ _ _ _ _ _ _ _ _ _ _ _ _ (pk_pre _ _ _)).mono ?_; rintro e w5 ⟨rfl, hb⟩; have hbw := hbw.trans (hb.mono hbw.size); have hA := QS.keep hb hA; have hB := QS.keep hb hB; have hZA := QS.keep hb hZA; have hZB := QS.keep hb hZB; have hM := QS.keep hb hM; obtain ⟨qa, qaf, qal⟩ := QS.out hA; obtain ⟨qb, qbf, qbl⟩ := QS.out hB; obtain ⟨qza, qzaf, qzal⟩ := QS.out hZA; obtain ⟨qzb, qzbf, qzbl⟩ := QS.out hZB; obtain ⟨qm, qmf, qml⟩ := QS.out hM)
              | (go_at_call 12; refine (sameNode_yes _ _ _ _ _ _ _ _ _ _ _ _ _ _ _ _ _ _ _ _ _ _ (pk_pre _ _ _)).mono ?_; rintro e w5 ⟨rfl, hb⟩; have hbw := hbw.trans (hb.mono hbw.size); have hA := QS.keep hb hA; have hB := QS.keep hb hB; have hZA := QS.keep hb hZA; have hZB := QS.keep hb hZB; have hM := QS.keep hb hM; obtain ⟨qa, qaf, qal⟩ := QS.out hA; obtain ⟨qb, qbf, qbl⟩ := QS.out hB; obtain ⟨qza, qzaf, qzal⟩ := QS.out hZA; obtain ⟨qzb, qzbf, qzbl⟩ := QS.out hZB; obtain ⟨qm, qmf, qml⟩ := QS.out hM)
              | (go_at_call 13; refine (set_calls _ _ _ _ _ _ _ _ _ _ _ _).mono ?_; rintro e w5 ⟨rfl, hb⟩; have hbw := hbw.trans (hb.mono hbw.size); have hA := QS.keep hb hA; have hB := QS.keep hb hB; have hZA := QS.keep hb hZA; have hZB := QS.keep hb hZB; have hM := QS.keep hb hM; obtain ⟨qa, qaf, qal⟩ := QS.out hA; obtain ⟨qb, qbf, qbl⟩ := QS.out hB; obtain ⟨qza, qzaf, qzal⟩ := QS.out hZA; obtain ⟨qzb, qzbf, qzbl⟩ := QS.out hZB; obtain ⟨qm, qmf, qml⟩ := QS.out hM))
            have em : atOf false true ata aaa = aaa := by simp [atOf]
            have ea : atOf false true ata aaa = aaa := by simp [atOf]
            have eb : atOf false false bta baa = baa := by simp [atOf]
            go_region_with (first
              | (go_at_call 14; refine (at_calls _ _ _ _ _ _ _ _ _ _ _ _).mono ?_; rintro e w5 ⟨rfl, hb⟩; (first | (have hbw := hbw.trans (hb.mono hbw.size); have hA := QS.keep hb hA; have hB := QS.keep hb hB; have hZA := QS.keep hb hZA; have hZB := QS.keep hb hZB; have hM := QS.keep hb hM) | (have hb := below_of_drew hb; have hbw := hbw.trans (hb.mono hbw.size); have hA := QS.keep hb hA; have hB := QS.keep hb hB; have hZA := QS.keep hb hZA; have hZB := QS.keep hb hZB; have hM := QS.keep hb hM)); obtain ⟨qa, qaf, qal⟩ := QS.out hA; obtain ⟨qb, qbf, qbl⟩ := QS.out hB; obtain ⟨qza, qzaf, qzal⟩ := QS.out hZA; obtain ⟨qzb, qzbf, qzbl⟩ := QS.out hZB; obtain ⟨qm, qmf, qml⟩ := QS.out hM))
            all_goals
              go_wp2
              go_ret
              exact ⟨by first | rfl | (simp; done) | (simp; omega), hbw⟩
        · as_aux_lemma =>
            refine (zzmerge_clash _ _ _ _ _ _ _ _ _ _ _ _ _ _ _ _ _ _ _ _ _ _ _ (.inr rfl)).mono ?_
            rintro e w4 ⟨x, rfl, hb⟩
            have hbw := hbw.trans (hb.mono hbw.size)
            have hA := QS.keep hb hA
            have hB := QS.keep hb hB
            obtain ⟨qa, qaf, qal⟩ := QS.out hA
            obtain ⟨qb, qbf, qbl⟩ := QS.out hB
            clear qza qzaf qzal qzb qzbf qzbl hZA hZB hb
            go_wp2
            go_ret
            exact ⟨rfl, hbw.alloc hbw.size _⟩
        · as_aux_lemma =>
            refine (zzmerge_ok _ _ _ _ _ _ _ _ _ _ _ _ _ _ _ _ _ _ _ _ _ _ _ rfl rfl).mono ?_
            rintro e w4 ⟨rfl, hb⟩
            simp only [pk_true, pk_false]
            replace hbw := (hbw.trans (hb.mono hbw.size))
            replace hbw := hbw.alloc hbw.size (.cells #[.string bs, .bool bhp, .string (pk bhp bp ⟨#[]⟩), .int .i32 bpx, .string aan, .bool true, .bool false, .int .i64 bta, .int .i64 aaa, .bool ahn, .int .i64 (pk ahn ano 0)] 26)
            replace hA := (QS.keep hb hA).alloc (.cells #[.string bs, .bool bhp, .string (pk bhp bp ⟨#[]⟩), .int .i32 bpx, .string aan, .bool true, .bool false, .int .i64 bta, .int .i64 aaa, .bool ahn, .int .i64 (pk ahn ano 0)] 26)
            replace hB := (QS.keep hb hB).alloc (.cells #[.string bs, .bool bhp, .string (pk bhp bp ⟨#[]⟩), .int .i32 bpx, .string aan, .bool true, .bool false, .int .i64 bta, .int .i64 aaa, .bool ahn, .int .i64 (pk ahn ano 0)] 26)
            replace hZA := (QS.keep hb hZA).alloc (.cells #[.string bs, .bool bhp, .string (pk bhp bp ⟨#[]⟩), .int .i32 bpx, .string aan, .bool true, .bool false, .int .i64 bta, .int .i64 aaa, .bool ahn, .int .i64 (pk ahn ano 0)] 26)
            replace hZB := (QS.keep hb hZB).alloc (.cells #[.string bs, .bool bhp, .string (pk bhp bp ⟨#[]⟩), .int .i32 bpx, .string aan, .bool true, .bool false, .int .i64 bta, .int .i64 aaa, .bool ahn, .int .i64 (pk ahn ano 0)] 26)
            have hM := QS.made w4 #[.string bs, .bool bhp, .string (pk bhp bp ⟨#[]⟩), .int .i32 bpx, .string aan, .bool true, .bool false, .int .i64 bta, .int .i64 aaa, .bool ahn, .int .i64 (pk ahn ano 0)] 26
            clear qza qzaf qzal qzb qzbf qzbl hb
            obtain ⟨qa, qaf, qal⟩ := QS.out hA; obtain ⟨qb, qbf, qbl⟩ := QS.out hB; obtain ⟨qza, qzaf, qzal⟩ := QS.out hZA; obtain ⟨qzb, qzbf, qzbl⟩ := QS.out hZB; obtain ⟨qm, qmf, qml⟩ := QS.out hM
            go_wp2_with (first
              | (go_at_call 10; refine (sameTag_yes _ _ _ _ _ _ _ _ _ _ _ _ _ _ _ _ _ _ _ (pk_pre _ _ _)).mono ?_; rintro e w5 ⟨rfl, hb⟩; have hbw := hbw.trans (hb.mono hbw.size); have hA := QS.keep hb hA; have hB := QS.keep hb hB; have hZA := QS.keep hb hZA; have hZB := QS.keep hb hZB; have hM := QS.keep hb hM; obtain ⟨qa, qaf, qal⟩ := QS.out hA; obtain ⟨qb, qbf, qbl⟩ := QS.out hB; obtain ⟨qza, qzaf, qzal⟩ := QS.out hZA; obtain ⟨qzb, qzbf, qzbl⟩ := QS.out hZB; obtain ⟨qm, qmf, qml⟩ := QS.out hM)
              | (go_at_call 11; refine (sameAnchor_yes _ _ _ _ _ _ _ _ _ _ _ _ _ _ _ _ _ _ _ _ (pk_pre _ _ _)).mono ?_; rintro e w5 ⟨rfl, hb⟩; have hbw := hbw.trans (hb.mono hbw.size); have hA := QS.keep hb hA; have hB := QS.keep hb hB; have hZA := QS.keep hb hZA; have hZB := QS.keep hb hZB; have hM := QS.keep hb hM; obtain ⟨qa, qaf, qal⟩ := QS.out hA; obtain ⟨qb, qbf, qbl⟩ := QS.out hB; obtain ⟨qza, qzaf, qzal⟩ := QS.out hZA; obtain ⟨qzb, qzbf, qzbl⟩ := QS.out hZB; obtain ⟨qm, qmf, qml⟩ := QS.out hM)
              | (go_at_call 12; refine (sameNode_yes _ _ _ _ _ _ _ _ _ _ _ _ _ _ _ _ _ _ _ _ _ _ (pk_pre _ _ _)).mono ?_; rintro e w5 ⟨rfl, hb⟩; have hbw := hbw.trans (hb.mono hbw.size); have hA := QS.keep hb hA; have hB := QS.keep hb hB; have hZA := QS.keep hb hZA; have hZB := QS.keep hb hZB; have hM := QS.keep hb hM; obtain ⟨qa, qaf, qal⟩ := QS.out hA; obtain ⟨qb, qbf, qbl⟩ := QS.out hB; obtain ⟨qza, qzaf, qzal⟩ := QS.out hZA; obtain ⟨qzb, qzbf, qzbl⟩ := QS.out hZB; obtain ⟨qm, qmf, qml⟩ := QS.out hM)
              | (go_at_call 13; refine (set_calls _ _ _ _ _ _ _ _ _ _ _ _).mono ?_; rintro e w5 ⟨rfl, hb⟩; have hbw := hbw.trans (hb.mono hbw.size); have hA := QS.keep hb hA; have hB := QS.keep hb hB; have hZA := QS.keep hb hZA; have hZB := QS.keep hb hZB; have hM := QS.keep hb hM; obtain ⟨qa, qaf, qal⟩ := QS.out hA; obtain ⟨qb, qbf, qbl⟩ := QS.out hB; obtain ⟨qza, qzaf, qzal⟩ := QS.out hZA; obtain ⟨qzb, qzbf, qzbl⟩ := QS.out hZB; obtain ⟨qm, qmf, qml⟩ := QS.out hM))
            have em : atOf true false bta aaa = bta := by simp [atOf]
            have ea : atOf false false ata aaa = aaa := by simp [atOf]
            have eb : atOf true false bta baa = bta := by simp [atOf]
            go_region_with (first
              | (go_at_call 14; refine (at_calls _ _ _ _ _ _ _ _ _ _ _ _).mono ?_; rintro e w5 ⟨rfl, hb⟩; (first | (have hbw := hbw.trans (hb.mono hbw.size); have hA := QS.keep hb hA; have hB := QS.keep hb hB; have hZA := QS.keep hb hZA; have hZB := QS.keep hb hZB; have hM := QS.keep hb hM) | (have hb := below_of_drew hb; have hbw := hbw.trans (hb.mono hbw.size); have hA := QS.keep hb hA; have hB := QS.keep hb hB; have hZA := QS.keep hb hZA; have hZB := QS.keep hb hZB; have hM := QS.keep hb hM)); obtain ⟨qa, qaf, qal⟩ := QS.out hA; obtain ⟨qb, qbf, qbl⟩ := QS.out hB; obtain ⟨qza, qzaf, qzal⟩ := QS.out hZA; obtain ⟨qzb, qzbf, qzbl⟩ := QS.out hZB; obtain ⟨qm, qmf, qml⟩ := QS.out hM))
            all_goals
              go_wp2
              go_ret
              exact ⟨by first | rfl | (simp; done) | (simp; omega), hbw⟩
        · as_aux_lemma =>
            refine (zzmerge_ok _ _ _ _ _ _ _ _ _ _ _ _ _ _ _ _ _ _ _ _ _ _ _ rfl rfl).mono ?_
            rintro e w4 ⟨rfl, hb⟩
            simp only [pk_true, pk_false]
            replace hbw := (hbw.trans (hb.mono hbw.size))
            replace hbw := hbw.alloc hbw.size (.cells #[.string bs, .bool bhp, .string (pk bhp bp ⟨#[]⟩), .int .i32 bpx, .string ban, .bool true, .bool true, .int .i64 bta, .int .i64 baa, .bool bhn, .int .i64 (pk bhn bno 0)] 26)
            replace hA := (QS.keep hb hA).alloc (.cells #[.string bs, .bool bhp, .string (pk bhp bp ⟨#[]⟩), .int .i32 bpx, .string ban, .bool true, .bool true, .int .i64 bta, .int .i64 baa, .bool bhn, .int .i64 (pk bhn bno 0)] 26)
            replace hB := (QS.keep hb hB).alloc (.cells #[.string bs, .bool bhp, .string (pk bhp bp ⟨#[]⟩), .int .i32 bpx, .string ban, .bool true, .bool true, .int .i64 bta, .int .i64 baa, .bool bhn, .int .i64 (pk bhn bno 0)] 26)
            replace hZA := (QS.keep hb hZA).alloc (.cells #[.string bs, .bool bhp, .string (pk bhp bp ⟨#[]⟩), .int .i32 bpx, .string ban, .bool true, .bool true, .int .i64 bta, .int .i64 baa, .bool bhn, .int .i64 (pk bhn bno 0)] 26)
            replace hZB := (QS.keep hb hZB).alloc (.cells #[.string bs, .bool bhp, .string (pk bhp bp ⟨#[]⟩), .int .i32 bpx, .string ban, .bool true, .bool true, .int .i64 bta, .int .i64 baa, .bool bhn, .int .i64 (pk bhn bno 0)] 26)
            have hM := QS.made w4 #[.string bs, .bool bhp, .string (pk bhp bp ⟨#[]⟩), .int .i32 bpx, .string ban, .bool true, .bool true, .int .i64 bta, .int .i64 baa, .bool bhn, .int .i64 (pk bhn bno 0)] 26
            clear qza qzaf qzal qzb qzbf qzbl hb
            obtain ⟨qa, qaf, qal⟩ := QS.out hA; obtain ⟨qb, qbf, qbl⟩ := QS.out hB; obtain ⟨qza, qzaf, qzal⟩ := QS.out hZA; obtain ⟨qzb, qzbf, qzbl⟩ := QS.out hZB; obtain ⟨qm, qmf, qml⟩ := QS.out hM
            go_wp2_with (first
              | (go_at_call 10; refine (sameTag_yes _ _ _ _ _ _ _ _ _ _ _ _ _ _ _ _ _ _ _ (pk_pre _ _ _)).mono ?_; rintro e w5 ⟨rfl, hb⟩; have hbw := hbw.trans (hb.mono hbw.size); have hA := QS.keep hb hA; have hB := QS.keep hb hB; have hZA := QS.keep hb hZA; have hZB := QS.keep hb hZB; have hM := QS.keep hb hM; obtain ⟨qa, qaf, qal⟩ := QS.out hA; obtain ⟨qb, qbf, qbl⟩ := QS.out hB; obtain ⟨qza, qzaf, qzal⟩ := QS.out hZA; obtain ⟨qzb, qzbf, qzbl⟩ := QS.out hZB; obtain ⟨qm, qmf, qml⟩ := QS.out hM)
              | (go_at_call 11; refine (sameAnchor_yes _ _ _ _ _ _ _ _ _ _ _ _ _ _ _ _ _ _ _ _ (pk_pre _ _ _)).mono ?_; rintro e w5 ⟨rfl, hb⟩; have hbw := hbw.trans (hb.mono hbw.size); have hA := QS.keep hb hA; have hB := QS.keep hb hB; have hZA := QS.keep hb hZA; have hZB := QS.keep hb hZB; have hM := QS.keep hb hM; obtain ⟨qa, qaf, qal⟩ := QS.out hA; obtain ⟨qb, qbf, qbl⟩ := QS.out hB; obtain ⟨qza, qzaf, qzal⟩ := QS.out hZA; obtain ⟨qzb, qzbf, qzbl⟩ := QS.out hZB; obtain ⟨qm, qmf, qml⟩ := QS.out hM)
              | (go_at_call 12; refine (sameNode_yes _ _ _ _ _ _ _ _ _ _ _ _ _ _ _ _ _ _ _ _ _ _ (pk_pre _ _ _)).mono ?_; rintro e w5 ⟨rfl, hb⟩; have hbw := hbw.trans (hb.mono hbw.size); have hA := QS.keep hb hA; have hB := QS.keep hb hB; have hZA := QS.keep hb hZA; have hZB := QS.keep hb hZB; have hM := QS.keep hb hM; obtain ⟨qa, qaf, qal⟩ := QS.out hA; obtain ⟨qb, qbf, qbl⟩ := QS.out hB; obtain ⟨qza, qzaf, qzal⟩ := QS.out hZA; obtain ⟨qzb, qzbf, qzbl⟩ := QS.out hZB; obtain ⟨qm, qmf, qml⟩ := QS.out hM)
              | (go_at_call 13; refine (set_calls _ _ _ _ _ _ _ _ _ _ _ _).mono ?_; rintro e w5 ⟨rfl, hb⟩; have hbw := hbw.trans (hb.mono hbw.size); have hA := QS.keep hb hA; have hB := QS.keep hb hB; have hZA := QS.keep hb hZA; have hZB := QS.keep hb hZB; have hM := QS.keep hb hM; obtain ⟨qa, qaf, qal⟩ := QS.out hA; obtain ⟨qb, qbf, qbl⟩ := QS.out hB; obtain ⟨qza, qzaf, qzal⟩ := QS.out hZA; obtain ⟨qzb, qzbf, qzbl⟩ := QS.out hZB; obtain ⟨qm, qmf, qml⟩ := QS.out hM))
            have em : atOf true true bta baa = min bta baa := by simp [atOf]
            have ea : atOf false false ata aaa = aaa := by simp [atOf]
            have eb : atOf true true bta baa = min bta baa := by simp [atOf]
            go_region_with (first
              | (go_at_call 14; refine (at_calls _ _ _ _ _ _ _ _ _ _ _ _).mono ?_; rintro e w5 ⟨rfl, hb⟩; (first | (have hbw := hbw.trans (hb.mono hbw.size); have hA := QS.keep hb hA; have hB := QS.keep hb hB; have hZA := QS.keep hb hZA; have hZB := QS.keep hb hZB; have hM := QS.keep hb hM) | (have hb := below_of_drew hb; have hbw := hbw.trans (hb.mono hbw.size); have hA := QS.keep hb hA; have hB := QS.keep hb hB; have hZA := QS.keep hb hZA; have hZB := QS.keep hb hZB; have hM := QS.keep hb hM)); obtain ⟨qa, qaf, qal⟩ := QS.out hA; obtain ⟨qb, qbf, qbl⟩ := QS.out hB; obtain ⟨qza, qzaf, qzal⟩ := QS.out hZA; obtain ⟨qzb, qzbf, qzbl⟩ := QS.out hZB; obtain ⟨qm, qmf, qml⟩ := QS.out hM))
            all_goals
              go_wp2
              go_ret
              exact ⟨by first | rfl | (simp; done) | (simp; omega), hbw⟩
        · as_aux_lemma =>
            refine (zzmerge_ok _ _ _ _ _ _ _ _ _ _ _ _ _ _ _ _ _ _ _ _ _ _ _ rfl rfl).mono ?_
            rintro e w4 ⟨rfl, hb⟩
            simp only [pk_true, pk_false]
            replace hbw := (hbw.trans (hb.mono hbw.size))
            replace hbw := hbw.alloc hbw.size (.cells #[.string bs, .bool bhp, .string (pk bhp bp ⟨#[]⟩), .int .i32 bpx, .string aan, .bool true, .bool true, .int .i64 bta, .int .i64 aaa, .bool ahn, .int .i64 (pk ahn ano 0)] 26)
            replace hA := (QS.keep hb hA).alloc (.cells #[.string bs, .bool bhp, .string (pk bhp bp ⟨#[]⟩), .int .i32 bpx, .string aan, .bool true, .bool true, .int .i64 bta, .int .i64 aaa, .bool ahn, .int .i64 (pk ahn ano 0)] 26)
            replace hB := (QS.keep hb hB).alloc (.cells #[.string bs, .bool bhp, .string (pk bhp bp ⟨#[]⟩), .int .i32 bpx, .string aan, .bool true, .bool true, .int .i64 bta, .int .i64 aaa, .bool ahn, .int .i64 (pk ahn ano 0)] 26)
            replace hZA := (QS.keep hb hZA).alloc (.cells #[.string bs, .bool bhp, .string (pk bhp bp ⟨#[]⟩), .int .i32 bpx, .string aan, .bool true, .bool true, .int .i64 bta, .int .i64 aaa, .bool ahn, .int .i64 (pk ahn ano 0)] 26)
            replace hZB := (QS.keep hb hZB).alloc (.cells #[.string bs, .bool bhp, .string (pk bhp bp ⟨#[]⟩), .int .i32 bpx, .string aan, .bool true, .bool true, .int .i64 bta, .int .i64 aaa, .bool ahn, .int .i64 (pk ahn ano 0)] 26)
            have hM := QS.made w4 #[.string bs, .bool bhp, .string (pk bhp bp ⟨#[]⟩), .int .i32 bpx, .string aan, .bool true, .bool true, .int .i64 bta, .int .i64 aaa, .bool ahn, .int .i64 (pk ahn ano 0)] 26
            clear qza qzaf qzal qzb qzbf qzbl hb
            obtain ⟨qa, qaf, qal⟩ := QS.out hA; obtain ⟨qb, qbf, qbl⟩ := QS.out hB; obtain ⟨qza, qzaf, qzal⟩ := QS.out hZA; obtain ⟨qzb, qzbf, qzbl⟩ := QS.out hZB; obtain ⟨qm, qmf, qml⟩ := QS.out hM
            go_wp2_with (first
              | (go_at_call 10; refine (sameTag_yes _ _ _ _ _ _ _ _ _ _ _ _ _ _ _ _ _ _ _ (pk_pre _ _ _)).mono ?_; rintro e w5 ⟨rfl, hb⟩; have hbw := hbw.trans (hb.mono hbw.size); have hA := QS.keep hb hA; have hB := QS.keep hb hB; have hZA := QS.keep hb hZA; have hZB := QS.keep hb hZB; have hM := QS.keep hb hM; obtain ⟨qa, qaf, qal⟩ := QS.out hA; obtain ⟨qb, qbf, qbl⟩ := QS.out hB; obtain ⟨qza, qzaf, qzal⟩ := QS.out hZA; obtain ⟨qzb, qzbf, qzbl⟩ := QS.out hZB; obtain ⟨qm, qmf, qml⟩ := QS.out hM)
              | (go_at_call 11; refine (sameAnchor_yes _ _ _ _ _ _ _ _ _ _ _ _ _ _ _ _ _ _ _ _ (pk_pre _ _ _)).mono ?_; rintro e w5 ⟨rfl, hb⟩; have hbw := hbw.trans (hb.mono hbw.size); have hA := QS.keep hb hA; have hB := QS.keep hb hB; have hZA := QS.keep hb hZA; have hZB := QS.keep hb hZB; have hM := QS.keep hb hM; obtain ⟨qa, qaf, qal⟩ := QS.out hA; obtain ⟨qb, qbf, qbl⟩ := QS.out hB; obtain ⟨qza, qzaf, qzal⟩ := QS.out hZA; obtain ⟨qzb, qzbf, qzbl⟩ := QS.out hZB; obtain ⟨qm, qmf, qml⟩ := QS.out hM)
              | (go_at_call 12; refine (sameNode_yes _ _ _ _ _ _ _ _ _ _ _ _ _ _ _ _ _ _ _ _ _ _ (pk_pre _ _ _)).mono ?_; rintro e w5 ⟨rfl, hb⟩; have hbw := hbw.trans (hb.mono hbw.size); have hA := QS.keep hb hA; have hB := QS.keep hb hB; have hZA := QS.keep hb hZA; have hZB := QS.keep hb hZB; have hM := QS.keep hb hM; obtain ⟨qa, qaf, qal⟩ := QS.out hA; obtain ⟨qb, qbf, qbl⟩ := QS.out hB; obtain ⟨qza, qzaf, qzal⟩ := QS.out hZA; obtain ⟨qzb, qzbf, qzbl⟩ := QS.out hZB; obtain ⟨qm, qmf, qml⟩ := QS.out hM)
              | (go_at_call 13; refine (set_calls _ _ _ _ _ _ _ _ _ _ _ _).mono ?_; rintro e w5 ⟨rfl, hb⟩; have hbw := hbw.trans (hb.mono hbw.size); have hA := QS.keep hb hA; have hB := QS.keep hb hB; have hZA := QS.keep hb hZA; have hZB := QS.keep hb hZB; have hM := QS.keep hb hM; obtain ⟨qa, qaf, qal⟩ := QS.out hA; obtain ⟨qb, qbf, qbl⟩ := QS.out hB; obtain ⟨qza, qzaf, qzal⟩ := QS.out hZA; obtain ⟨qzb, qzbf, qzbl⟩ := QS.out hZB; obtain ⟨qm, qmf, qml⟩ := QS.out hM))
            have em : atOf true true bta aaa = min bta aaa := by simp [atOf]
            have ea : atOf false true ata aaa = aaa := by simp [atOf]
            have eb : atOf true false bta baa = bta := by simp [atOf]
            go_region_held (fun v => (∀ j, v.cell? ⟨w4.heap.size, j, none⟩ = (#[.string bs, .bool bhp, .string (pk bhp bp ⟨#[]⟩), .int .i32 bpx, .string aan, .bool true, .bool true, .int .i64 bta, .int .i64 aaa, .bool ahn, .int .i64 (pk ahn ano 0)] : Array Value)[j]?) ∧ (∀ j, v.cell? ⟨w2.heap.size, j, none⟩ = (#[.string a_s, .bool ahp, .string ap, .int .i32 apx, .string aan, .bool false, .bool true, .int .i64 ata, .int .i64 aaa, .bool ahn, .int .i64 ano] : Array Value)[j]?) ∧ (∀ j, v.cell? ⟨w3.heap.size, j, none⟩ = (#[.string bs, .bool bhp, .string bp, .int .i32 bpx, .string ban, .bool true, .bool false, .int .i64 bta, .int .i64 baa, .bool bhn, .int .i64 bno] : Array Value)[j]?) ∧ w4.heap.size < v.heap.size ∧ w2.heap.size < v.heap.size ∧ w3.heap.size < v.heap.size) (first | exact three_drew hM hZA hZB | exact three hM hZA hZB) (first
              | (go_at_call 14; refine (at_calls _ _ _ _ _ _ _ _ _ _ _ _).mono ?_; rintro e w5 ⟨rfl, hb⟩; (first | (have hbw := hbw.trans (hb.mono hbw.size); have hA := QS.keep hb hA; have hB := QS.keep hb hB; have hZA := QS.keep hb hZA; have hZB := QS.keep hb hZB; have hM := QS.keep hb hM) | (have hb := below_of_drew hb; have hbw := hbw.trans (hb.mono hbw.size); have hA := QS.keep hb hA; have hB := QS.keep hb hB; have hZA := QS.keep hb hZA; have hZB := QS.keep hb hZB; have hM := QS.keep hb hM))))
            all_goals
              go_wp2
              all_goals
                go_ret
                exact ⟨by first | rfl | (simp; done) | (simp; omega), hbw⟩
        · as_aux_lemma =>
            refine (zzmerge_clash _ _ _ _ _ _ _ _ _ _ _ _ _ _ _ _ _ _ _ _ _ _ _ (.inr rfl)).mono ?_
            rintro e w4 ⟨x, rfl, hb⟩
            have hbw := hbw.trans (hb.mono hbw.size)
            have hA := QS.keep hb hA
            have hB := QS.keep hb hB
            obtain ⟨qa, qaf, qal⟩ := QS.out hA
            obtain ⟨qb, qbf, qbl⟩ := QS.out hB
            clear qza qzaf qzal qzb qzbf qzbl hZA hZB hb
            go_wp2
            go_ret
            exact ⟨rfl, hbw.alloc hbw.size _⟩
        · as_aux_lemma =>
            refine (zzmerge_ok _ _ _ _ _ _ _ _ _ _ _ _ _ _ _ _ _ _ _ _ _ _ _ rfl rfl).mono ?_
            rintro e w4 ⟨rfl, hb⟩
            simp only [pk_true, pk_false]
            replace hbw := (hbw.trans (hb.mono hbw.size))
            replace hbw := hbw.alloc hbw.size (.cells #[.string a_s, .bool ahp, .string (pk ahp ap ⟨#[]⟩), .int .i32 apx, .string aan, .bool true, .bool false, .int .i64 ata, .int .i64 aaa, .bool ahn, .int .i64 (pk ahn ano 0)] 26)
            replace hA := (QS.keep hb hA).alloc (.cells #[.string a_s, .bool ahp, .string (pk ahp ap ⟨#[]⟩), .int .i32 apx, .string aan, .bool true, .bool false, .int .i64 ata, .int .i64 aaa, .bool ahn, .int .i64 (pk ahn ano 0)] 26)
            replace hB := (QS.keep hb hB).alloc (.cells #[.string a_s, .bool ahp, .string (pk ahp ap ⟨#[]⟩), .int .i32 apx, .string aan, .bool true, .bool false, .int .i64 ata, .int .i64 aaa, .bool ahn, .int .i64 (pk ahn ano 0)] 26)
            replace hZA := (QS.keep hb hZA).alloc (.cells #[.string a_s, .bool ahp, .string (pk ahp ap ⟨#[]⟩), .int .i32 apx, .string aan, .bool true, .bool false, .int .i64 ata, .int .i64 aaa, .bool ahn, .int .i64 (pk ahn ano 0)] 26)
            replace hZB := (QS.keep hb hZB).alloc (.cells #[.string a_s, .bool ahp, .string (pk ahp ap ⟨#[]⟩), .int .i32 apx, .string aan, .bool true, .bool false, .int .i64 ata, .int .i64 aaa, .bool ahn, .int .i64 (pk ahn ano 0)] 26)
            have hM := QS.made w4 #[.string a_s, .bool ahp, .string (pk ahp ap ⟨#[]⟩), .int .i32 apx, .string aan, .bool true, .bool false, .int .i64 ata, .int .i64 aaa, .bool ahn, .int .i64 (pk ahn ano 0)] 26
            clear qza qzaf qzal qzb qzbf qzbl hb
            obtain ⟨qa, qaf, qal⟩ := QS.out hA; obtain ⟨qb, qbf, qbl⟩ := QS.out hB; obtain ⟨qza, qzaf, qzal⟩ := QS.out hZA; obtain ⟨qzb, qzbf, qzbl⟩ := QS.out hZB; obtain ⟨qm, qmf, qml⟩ := QS.out hM
            go_wp2_with (first
              | (go_at_call 10; refine (sameTag_yes _ _ _ _ _ _ _ _ _ _ _ _ _ _ _ _ _ _ _ (pk_pre _ _ _)).mono ?_; rintro e w5 ⟨rfl, hb⟩; have hbw := hbw.trans (hb.mono hbw.size); have hA := QS.keep hb hA; have hB := QS.keep hb hB; have hZA := QS.keep hb hZA; have hZB := QS.keep hb hZB; have hM := QS.keep hb hM; obtain ⟨qa, qaf, qal⟩ := QS.out hA; obtain ⟨qb, qbf, qbl⟩ := QS.out hB; obtain ⟨qza, qzaf, qzal⟩ := QS.out hZA; obtain ⟨qzb, qzbf, qzbl⟩ := QS.out hZB; obtain ⟨qm, qmf, qml⟩ := QS.out hM)
              | (go_at_call 11; refine (sameAnchor_yes _ _ _ _ _ _ _ _ _ _ _ _ _ _ _ _ _ _ _ _ (pk_pre _ _ _)).mono ?_; rintro e w5 ⟨rfl, hb⟩; have hbw := hbw.trans (hb.mono hbw.size); have hA := QS.keep hb hA; have hB := QS.keep hb hB; have hZA := QS.keep hb hZA; have hZB := QS.keep hb hZB; have hM := QS.keep hb hM; obtain ⟨qa, qaf, qal⟩ := QS.out hA; obtain ⟨qb, qbf, qbl⟩ := QS.out hB; obtain ⟨qza, qzaf, qzal⟩ := QS.out hZA; obtain ⟨qzb, qzbf, qzbl⟩ := QS.out hZB; obtain ⟨qm, qmf, qml⟩ := QS.out hM)
              | (go_at_call 12; refine (sameNode_yes _ _ _ _ _ _ _ _ _ _ _ _ _ _ _ _ _ _ _ _ _ _ (pk_pre _ _ _)).mono ?_; rintro e w5 ⟨rfl, hb⟩; have hbw := hbw.trans (hb.mono hbw.size); have hA := QS.keep hb hA; have hB := QS.keep hb hB; have hZA := QS.keep hb hZA; have hZB := QS.keep hb hZB; have hM := QS.keep hb hM; obtain ⟨qa, qaf, qal⟩ := QS.out hA; obtain ⟨qb, qbf, qbl⟩ := QS.out hB; obtain ⟨qza, qzaf, qzal⟩ := QS.out hZA; obtain ⟨qzb, qzbf, qzbl⟩ := QS.out hZB; obtain ⟨qm, qmf, qml⟩ := QS.out hM)
              | (go_at_call 13; refine (set_calls _ _ _ _ _ _ _ _ _ _ _ _).mono ?_; rintro e w5 ⟨rfl, hb⟩; have hbw := hbw.trans (hb.mono hbw.size); have hA := QS.keep hb hA; have hB := QS.keep hb hB; have hZA := QS.keep hb hZA; have hZB := QS.keep hb hZB; have hM := QS.keep hb hM; obtain ⟨qa, qaf, qal⟩ := QS.out hA; obtain ⟨qb, qbf, qbl⟩ := QS.out hB; obtain ⟨qza, qzaf, qzal⟩ := QS.out hZA; obtain ⟨qzb, qzbf, qzbl⟩ := QS.out hZB; obtain ⟨qm, qmf, qml⟩ := QS.out hM))
            have em : atOf true false ata aaa = ata := by simp [atOf]
            have ea : atOf true false ata aaa = ata := by simp [atOf]
            have eb : atOf false false bta baa = baa := by simp [atOf]
            go_region_with (first
              | (go_at_call 14; refine (at_calls _ _ _ _ _ _ _ _ _ _ _ _).mono ?_; rintro e w5 ⟨rfl, hb⟩; (first | (have hbw := hbw.trans (hb.mono hbw.size); have hA := QS.keep hb hA; have hB := QS.keep hb hB; have hZA := QS.keep hb hZA; have hZB := QS.keep hb hZB; have hM := QS.keep hb hM) | (have hb := below_of_drew hb; have hbw := hbw.trans (hb.mono hbw.size); have hA := QS.keep hb hA; have hB := QS.keep hb hB; have hZA := QS.keep hb hZA; have hZB := QS.keep hb hZB; have hM := QS.keep hb hM)); obtain ⟨qa, qaf, qal⟩ := QS.out hA; obtain ⟨qb, qbf, qbl⟩ := QS.out hB; obtain ⟨qza, qzaf, qzal⟩ := QS.out hZA; obtain ⟨qzb, qzbf, qzbl⟩ := QS.out hZB; obtain ⟨qm, qmf, qml⟩ := QS.out hM))
            all_goals
              go_wp2
              go_ret
              exact ⟨by first | rfl | (simp; done) | (simp; omega), hbw⟩
        · as_aux_lemma =>
            refine (zzmerge_ok _ _ _ _ _ _ _ _ _ _ _ _ _ _ _ _ _ _ _ _ _ _ _ rfl rfl).mono ?_
            rintro e w4 ⟨rfl, hb⟩
            simp only [pk_true, pk_false]
            replace hbw := (hbw.trans (hb.mono hbw.size))
            replace hbw := hbw.alloc hbw.size (.cells #[.string a_s, .bool ahp, .string (pk ahp ap ⟨#[]⟩), .int .i32 apx, .string ban, .bool true, .bool true, .int .i64 ata, .int .i64 baa, .bool bhn, .int .i64 (pk bhn bno 0)] 26)
            replace hA := (QS.keep hb hA).alloc (.cells #[.string a_s, .bool ahp, .string (pk ahp ap ⟨#[]⟩), .int .i32 apx, .string ban, .bool true, .bool true, .int .i64 ata, .int .i64 baa, .bool bhn, .int .i64 (pk bhn bno 0)] 26)
            replace hB := (QS.keep hb hB).alloc (.cells #[.string a_s, .bool ahp, .string (pk ahp ap ⟨#[]⟩), .int .i32 apx, .string ban, .bool true, .bool true, .int .i64 ata, .int .i64 baa, .bool bhn, .int .i64 (pk bhn bno 0)] 26)
            replace hZA := (QS.keep hb hZA).alloc (.cells #[.string a_s, .bool ahp, .string (pk ahp ap ⟨#[]⟩), .int .i32 apx, .string ban, .bool true, .bool true, .int .i64 ata, .int .i64 baa, .bool bhn, .int .i64 (pk bhn bno 0)] 26)
            replace hZB := (QS.keep hb hZB).alloc (.cells #[.string a_s, .bool ahp, .string (pk ahp ap ⟨#[]⟩), .int .i32 apx, .string ban, .bool true, .bool true, .int .i64 ata, .int .i64 baa, .bool bhn, .int .i64 (pk bhn bno 0)] 26)
            have hM := QS.made w4 #[.string a_s, .bool ahp, .string (pk ahp ap ⟨#[]⟩), .int .i32 apx, .string ban, .bool true, .bool true, .int .i64 ata, .int .i64 baa, .bool bhn, .int .i64 (pk bhn bno 0)] 26
            clear qza qzaf qzal qzb qzbf qzbl hb
            obtain ⟨qa, qaf, qal⟩ := QS.out hA; obtain ⟨qb, qbf, qbl⟩ := QS.out hB; obtain ⟨qza, qzaf, qzal⟩ := QS.out hZA; obtain ⟨qzb, qzbf, qzbl⟩ := QS.out hZB; obtain ⟨qm, qmf, qml⟩ := QS.out hM
            go_wp2_with (first
              | (go_at_call 10; refine (sameTag_yes _ _ _ _ _ _ _ _ _ _ _ _ _ _ _ _ _ _ _ (pk_pre _ _ _)).mono ?_; rintro e w5 ⟨rfl, hb⟩; have hbw := hbw.trans (hb.mono hbw.size); have hA := QS.keep hb hA; have hB := QS.keep hb hB; have hZA := QS.keep hb hZA; have hZB := QS.keep hb hZB; have hM := QS.keep hb hM; obtain ⟨qa, qaf, qal⟩ := QS.out hA; obtain ⟨qb, qbf, qbl⟩ := QS.out hB; obtain ⟨qza, qzaf, qzal⟩ := QS.out hZA; obtain ⟨qzb, qzbf, qzbl⟩ := QS.out hZB; obtain ⟨qm, qmf, qml⟩ := QS.out hM)
              | (go_at_call 11; refine (sameAnchor_yes _ _ _ _ _ _ _ _ _ _ _ _ _ _ _ _ _ _ _ _ (pk_pre _ _ _)).mono ?_; rintro e w5 ⟨rfl, hb⟩; have hbw := hbw.trans (hb.mono hbw.size); have hA := QS.keep hb hA; have hB := QS.keep hb hB; have hZA := QS.keep hb hZA; have hZB := QS.keep hb hZB; have hM := QS.keep hb hM; obtain ⟨qa, qaf, qal⟩ := QS.out hA; obtain ⟨qb, qbf, qbl⟩ := QS.out hB; obtain ⟨qza, qzaf, qzal⟩ := QS.out hZA; obtain ⟨qzb, qzbf, qzbl⟩ := QS.out hZB; obtain ⟨qm, qmf, qml⟩ := QS.out hM)
              | (go_at_call 12; refine (sameNode_yes _ _ _ _ _ _ _ _ _ _ _ _ _ _ _ _ _ _ _ _ _ _ (pk_pre _ _ _)).mono ?_; rintro e w5 ⟨rfl, hb⟩; have hbw := hbw.trans (hb.mono hbw.size); have hA := QS.keep hb hA; have hB := QS.keep hb hB; have hZA := QS.keep hb hZA; have hZB := QS.keep hb hZB; have hM := QS.keep hb hM; obtain ⟨qa, qaf, qal⟩ := QS.out hA; obtain ⟨qb, qbf, qbl⟩ := QS.out hB; obtain ⟨qza, qzaf, qzal⟩ := QS.out hZA; obtain ⟨qzb, qzbf, qzbl⟩ := QS.out hZB; obtain ⟨qm, qmf, qml⟩ := QS.out hM)
              | (go_at_call 13; refine (set_calls _ _ _ _ _ _ _ _ _ _ _ _).mono ?_; rintro e w5 ⟨rfl, hb⟩; have hbw := hbw.trans (hb.mono hbw.size); have hA := QS.keep hb hA; have hB := QS.keep hb hB; have hZA := QS.keep hb hZA; have hZB := QS.keep hb hZB; have hM := QS.keep hb hM; obtain ⟨qa, qaf, qal⟩ := QS.out hA; obtain ⟨qb, qbf, qbl⟩ := QS.out hB; obtain ⟨qza, qzaf, qzal⟩ := QS.out hZA; obtain ⟨qzb, qzbf, qzbl⟩ := QS.out hZB; obtain ⟨qm, qmf, qml⟩ := QS.out hM))
            have em : atOf true true ata baa = min ata baa := by simp [atOf]
            have ea : atOf true false ata aaa = ata := by simp [atOf]
            have eb : atOf false true bta baa = baa := by simp [atOf]
            go_region_held (fun v => (∀ j, v.cell? ⟨w4.heap.size, j, none⟩ = (#[.string a_s, .bool ahp, .string (pk ahp ap ⟨#[]⟩), .int .i32 apx, .string ban, .bool true, .bool true, .int .i64 ata, .int .i64 baa, .bool bhn, .int .i64 (pk bhn bno 0)] : Array Value)[j]?) ∧ (∀ j, v.cell? ⟨w2.heap.size, j, none⟩ = (#[.string a_s, .bool ahp, .string ap, .int .i32 apx, .string aan, .bool true, .bool false, .int .i64 ata, .int .i64 aaa, .bool ahn, .int .i64 ano] : Array Value)[j]?) ∧ (∀ j, v.cell? ⟨w3.heap.size, j, none⟩ = (#[.string bs, .bool bhp, .string bp, .int .i32 bpx, .string ban, .bool false, .bool true, .int .i64 bta, .int .i64 baa, .bool bhn, .int .i64 bno] : Array Value)[j]?) ∧ w4.heap.size < v.heap.size ∧ w2.heap.size < v.heap.size ∧ w3.heap.size < v.heap.size) (first | exact three_drew hM hZA hZB | exact three hM hZA hZB) (first
              | (go_at_call 14; refine (at_calls _ _ _ _ _ _ _ _ _ _ _ _).mono ?_; rintro e w5 ⟨rfl, hb⟩; (first | (have hbw := hbw.trans (hb.mono hbw.size); have hA := QS.keep hb hA; have hB := QS.keep hb hB; have hZA := QS.keep hb hZA; have hZB := QS.keep hb hZB; have hM := QS.keep hb hM) | (have hb := below_of_drew hb; have hbw := hbw.trans (hb.mono hbw.size); have hA := QS.keep hb hA; have hB := QS.keep hb hB; have hZA := QS.keep hb hZA; have hZB := QS.keep hb hZB; have hM := QS.keep hb hM))))
            all_goals
              go_wp2
              all_goals
                go_ret
                exact ⟨by first | rfl | (simp; done) | (simp; omega), hbw⟩
        · as_aux_lemma =>
            refine (zzmerge_ok _ _ _ _ _ _ _ _ _ _ _ _ _ _ _ _ _ _ _ _ _ _ _ rfl rfl).mono ?_
            rintro e w4 ⟨rfl, hb⟩
            simp only [pk_true, pk_false]
            replace hbw := (hbw.trans (hb.mono hbw.size))
            replace hbw := hbw.alloc hbw.size (.cells #[.string a_s, .bool ahp, .string (pk ahp ap ⟨#[]⟩), .int .i32 apx, .string aan, .bool true, .bool true, .int .i64 ata, .int .i64 aaa, .bool ahn, .int .i64 (pk ahn ano 0)] 26)
            replace hA := (QS.keep hb hA).alloc (.cells #[.string a_s, .bool ahp, .string (pk ahp ap ⟨#[]⟩), .int .i32 apx, .string aan, .bool true, .bool true, .int .i64 ata, .int .i64 aaa, .bool ahn, .int .i64 (pk ahn ano 0)] 26)
            replace hB := (QS.keep hb hB).alloc (.cells #[.string a_s, .bool ahp, .string (pk ahp ap ⟨#[]⟩), .int .i32 apx, .string aan, .bool true, .bool true, .int .i64 ata, .int .i64 aaa, .bool ahn, .int .i64 (pk ahn ano 0)] 26)
            replace hZA := (QS.keep hb hZA).alloc (.cells #[.string a_s, .bool ahp, .string (pk ahp ap ⟨#[]⟩), .int .i32 apx, .string aan, .bool true, .bool true, .int .i64 ata, .int .i64 aaa, .bool ahn, .int .i64 (pk ahn ano 0)] 26)
            replace hZB := (QS.keep hb hZB).alloc (.cells #[.string a_s, .bool ahp, .string (pk ahp ap ⟨#[]⟩), .int .i32 apx, .string aan, .bool true, .bool true, .int .i64 ata, .int .i64 aaa, .bool ahn, .int .i64 (pk ahn ano 0)] 26)
            have hM := QS.made w4 #[.string a_s, .bool ahp, .string (pk ahp ap ⟨#[]⟩), .int .i32 apx, .string aan, .bool true, .bool true, .int .i64 ata, .int .i64 aaa, .bool ahn, .int .i64 (pk ahn ano 0)] 26
            clear qza qzaf qzal qzb qzbf qzbl hb
            obtain ⟨qa, qaf, qal⟩ := QS.out hA; obtain ⟨qb, qbf, qbl⟩ := QS.out hB; obtain ⟨qza, qzaf, qzal⟩ := QS.out hZA; obtain ⟨qzb, qzbf, qzbl⟩ := QS.out hZB; obtain ⟨qm, qmf, qml⟩ := QS.out hM
            go_wp2_with (first
              | (go_at_call 10; refine (sameTag_yes _ _ _ _ _ _ _ _ _ _ _ _ _ _ _ _ _ _ _ (pk_pre _ _ _)).mono ?_; rintro e w5 ⟨rfl, hb⟩; have hbw := hbw.trans (hb.mono hbw.size); have hA := QS.keep hb hA; have hB := QS.keep hb hB; have hZA := QS.keep hb hZA; have hZB := QS.keep hb hZB; have hM := QS.keep hb hM; obtain ⟨qa, qaf, qal⟩ := QS.out hA; obtain ⟨qb, qbf, qbl⟩ := QS.out hB; obtain ⟨qza, qzaf, qzal⟩ := QS.out hZA; obtain ⟨qzb, qzbf, qzbl⟩ := QS.out hZB; obtain ⟨qm, qmf, qml⟩ := QS.out hM)
              | (go_at_call 11; refine (sameAnchor_yes _ _ _ _ _ _ _ _ _ _ _ _ _ _ _ _ _ _ _ _ (pk_pre _ _ _)).mono ?_; rintro e w5 ⟨rfl, hb⟩; have hbw := hbw.trans (hb.mono hbw.size); have hA := QS.keep hb hA; have hB := QS.keep hb hB; have hZA := QS.keep hb hZA; have hZB := QS.keep hb hZB; have hM := QS.keep hb hM; obtain ⟨qa, qaf, qal⟩ := QS.out hA; obtain ⟨qb, qbf, qbl⟩ := QS.out hB; obtain ⟨qza, qzaf, qzal⟩ := QS.out hZA; obtain ⟨qzb, qzbf, qzbl⟩ := QS.out hZB; obtain ⟨qm, qmf, qml⟩ := QS.out hM)
              | (go_at_call 12; refine (sameNode_yes _ _ _ _ _ _ _ _ _ _ _ _ _ _ _ _ _ _ _ _ _ _ (pk_pre _ _ _)).mono ?_; rintro e w5 ⟨rfl, hb⟩; have hbw := hbw.trans (hb.mono hbw.size); have hA := QS.keep hb hA; have hB := QS.keep hb hB; have hZA := QS.keep hb hZA; have hZB := QS.keep hb hZB; have hM := QS.keep hb hM; obtain ⟨qa, qaf, qal⟩ := QS.out hA; obtain ⟨qb, qbf, qbl⟩ := QS.out hB; obtain ⟨qza, qzaf, qzal⟩ := QS.out hZA; obtain ⟨qzb, qzbf, qzbl⟩ := QS.out hZB; obtain ⟨qm, qmf, qml⟩ := QS.out hM)
              | (go_at_call 13; refine (set_calls _ _ _ _ _ _ _ _ _ _ _ _).mono ?_; rintro e w5 ⟨rfl, hb⟩; have hbw := hbw.trans (hb.mono hbw.size); have hA := QS.keep hb hA; have hB := QS.keep hb hB; have hZA := QS.keep hb hZA; have hZB := QS.keep hb hZB; have hM := QS.keep hb hM; obtain ⟨qa, qaf, qal⟩ := QS.out hA; obtain ⟨qb, qbf, qbl⟩ := QS.out hB; obtain ⟨qza, qzaf, qzal⟩ := QS.out hZA; obtain ⟨qzb, qzbf, qzbl⟩ := QS.out hZB; obtain ⟨qm, qmf, qml⟩ := QS.out hM))
            have em : atOf true true ata aaa = min ata aaa := by simp [atOf]
            have ea : atOf true true ata aaa = min ata aaa := by simp [atOf]
            have eb : atOf false false bta baa = baa := by simp [atOf]
            go_region_with (first
              | (go_at_call 14; refine (at_calls _ _ _ _ _ _ _ _ _ _ _ _).mono ?_; rintro e w5 ⟨rfl, hb⟩; (first | (have hbw := hbw.trans (hb.mono hbw.size); have hA := QS.keep hb hA; have hB := QS.keep hb hB; have hZA := QS.keep hb hZA; have hZB := QS.keep hb hZB; have hM := QS.keep hb hM) | (have hb := below_of_drew hb; have hbw := hbw.trans (hb.mono hbw.size); have hA := QS.keep hb hA; have hB := QS.keep hb hB; have hZA := QS.keep hb hZA; have hZB := QS.keep hb hZB; have hM := QS.keep hb hM)); obtain ⟨qa, qaf, qal⟩ := QS.out hA; obtain ⟨qb, qbf, qbl⟩ := QS.out hB; obtain ⟨qza, qzaf, qzal⟩ := QS.out hZA; obtain ⟨qzb, qzbf, qzbl⟩ := QS.out hZB; obtain ⟨qm, qmf, qml⟩ := QS.out hM))
            all_goals
              go_wp2
              go_ret
              exact ⟨by first | rfl | (simp; done) | (simp; omega), hbw⟩
        · as_aux_lemma =>
            refine (zzmerge_clash _ _ _ _ _ _ _ _ _ _ _ _ _ _ _ _ _ _ _ _ _ _ _ (.inr rfl)).mono ?_
            rintro e w4 ⟨x, rfl, hb⟩
            have hbw := hbw.trans (hb.mono hbw.size)
            have hA := QS.keep hb hA
            have hB := QS.keep hb hB
            obtain ⟨qa, qaf, qal⟩ := QS.out hA
            obtain ⟨qb, qbf, qbl⟩ := QS.out hB
            clear qza qzaf qzal qzb qzbf qzbl hZA hZB hb
            go_wp2
            go_ret
            exact ⟨rfl, hbw.alloc hbw.size _⟩
        · as_aux_lemma =>
            refine (zzmerge_clash _ _ _ _ _ _ _ _ _ _ _ _ _ _ _ _ _ _ _ _ _ _ _ (.inl rfl)).mono ?_
            rintro e w4 ⟨x, rfl, hb⟩
            have hbw := hbw.trans (hb.mono hbw.size)
            have hA := QS.keep hb hA
            have hB := QS.keep hb hB
            obtain ⟨qa, qaf, qal⟩ := QS.out hA
            obtain ⟨qb, qbf, qbl⟩ := QS.out hB
            clear qza qzaf qzal qzb qzbf qzbl hZA hZB hb
            go_wp2
            go_ret
            exact ⟨rfl, hbw.alloc hbw.size _⟩
        · as_aux_lemma =>
            refine (zzmerge_clash _ _ _ _ _ _ _ _ _ _ _ _ _ _ _ _ _ _ _ _ _ _ _ (.inl rfl)).mono ?_
            rintro e w4 ⟨x, rfl, hb⟩
            have hbw := hbw.trans (hb.mono hbw.size)
            have hA := QS.keep hb hA
            have hB := QS.keep hb hB
            obtain ⟨qa, qaf, qal⟩ := QS.out hA
            obtain ⟨qb, qbf, qbl⟩ := QS.out hB
            clear qza qzaf qzal qzb qzbf qzbl hZA hZB hb
            go_wp2
            go_ret
            exact ⟨rfl, hbw.alloc hbw.size _⟩
        · as_aux_lemma =>
            refine (zzmerge_clash _ _ _ _ _ _ _ _ _ _ _ _ _ _ _ _ _ _ _ _ _ _ _ (.inl rfl)).mono ?_
            rintro e w4 ⟨x, rfl, hb⟩
            have hbw := hbw.trans (hb.mono hbw.size)
            have hA := QS.keep hb hA
            have hB := QS.keep hb hB
            obtain ⟨qa, qaf, qal⟩ := QS.out hA
            obtain ⟨qb, qbf, qbl⟩ := QS.out hB
            clear qza qzaf qzal qzb qzbf qzbl hZA hZB hb
            go_wp2
            go_ret
            exact ⟨rfl, hbw.alloc hbw.size _⟩
        · as_aux_lemma =>
            refine (zzmerge_clash _ _ _ _ _ _ _ _ _ _ _ _ _ _ _ _ _ _ _ _ _ _ _ (.inl rfl)).mono ?_
            rintro e w4 ⟨x, rfl, hb⟩
            have hbw := hbw.trans (hb.mono hbw.size)
            have hA := QS.keep hb hA
            have hB := QS.keep hb hB
            obtain ⟨qa, qaf, qal⟩ := QS.out hA
            obtain ⟨qb, qbf, qbl⟩ := QS.out hB
            clear qza qzaf qzal qzb qzbf qzbl hZA hZB hb
            go_wp2
            go_ret
            exact ⟨rfl, hbw.alloc hbw.size _⟩
end Go.Proofs.Qxb6002391a

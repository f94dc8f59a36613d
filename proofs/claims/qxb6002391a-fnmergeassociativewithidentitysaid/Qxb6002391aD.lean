import Derived.Test.Qxb6002391aC
namespace Go.Proofs.Qxb6002391a
open Go.RowKit
set_option linter.unusedSimpArgs false
set_option linter.unusedVariables false

theorem nest11 {w v : World} {q : Nat} (s : ByteArray) (hp : Bool) (p : ByteArray) (px : Int) (an : ByteArray) (ht ha : Bool) (ta aa : Int) (hn : Bool) (no : Int) (hx : ∀ j, j < 11 → (v.cell? ⟨q, j, none⟩).isSome = true) (hb : Below w.heap.size w v) (hq : w.heap.size ≤ q) :
    ((((((((((((v.setCell ⟨q, 0, none⟩ (.string s)).setCell ⟨q, 1, none⟩ (.bool hp)).setCell ⟨q, 2, none⟩ (.string p)).setCell ⟨q, 3, none⟩ (.int .i32 px)).setCell ⟨q, 4, none⟩ (.string an)).setCell ⟨q, 5, none⟩ (.bool ht)).setCell ⟨q, 6, none⟩ (.bool ha)).setCell ⟨q, 7, none⟩ (.int .i64 ta)).setCell ⟨q, 8, none⟩ (.int .i64 aa)).setCell ⟨q, 9, none⟩ (.bool hn)).setCell ⟨q, 10, none⟩ (.int .i64 no)).cell? ⟨q, 0, none⟩ = some (.string s) ∧ (((((((((((v.setCell ⟨q, 0, none⟩ (.string s)).setCell ⟨q, 1, none⟩ (.bool hp)).setCell ⟨q, 2, none⟩ (.string p)).setCell ⟨q, 3, none⟩ (.int .i32 px)).setCell ⟨q, 4, none⟩ (.string an)).setCell ⟨q, 5, none⟩ (.bool ht)).setCell ⟨q, 6, none⟩ (.bool ha)).setCell ⟨q, 7, none⟩ (.int .i64 ta)).setCell ⟨q, 8, none⟩ (.int .i64 aa)).setCell ⟨q, 9, none⟩ (.bool hn)).setCell ⟨q, 10, none⟩ (.int .i64 no)).cell? ⟨q, 1, none⟩ = some (.bool hp) ∧ (((((((((((v.setCell ⟨q, 0, none⟩ (.string s)).setCell ⟨q, 1, none⟩ (.bool hp)).setCell ⟨q, 2, none⟩ (.string p)).setCell ⟨q, 3, none⟩ (.int .i32 px)).setCell ⟨q, 4, none⟩ (.string an)).setCell ⟨q, 5, none⟩ (.bool ht)).setCell ⟨q, 6, none⟩ (.bool ha)).setCell ⟨q, 7, none⟩ (.int .i64 ta)).setCell ⟨q, 8, none⟩ (.int .i64 aa)).setCell ⟨q, 9, none⟩ (.bool hn)).setCell ⟨q, 10, none⟩ (.int .i64 no)).cell? ⟨q, 2, none⟩ = some (.string p) ∧ (((((((((((v.setCell ⟨q, 0, none⟩ (.string s)).setCell ⟨q, 1, none⟩ (.bool hp)).setCell ⟨q, 2, none⟩ (.string p)).setCell ⟨q, 3, none⟩ (.int .i32 px)).setCell ⟨q, 4, none⟩ (.string an)).setCell ⟨q, 5, none⟩ (.bool ht)).setCell ⟨q, 6, none⟩ (.bool ha)).setCell ⟨q, 7, none⟩ (.int .i64 ta)).setCell ⟨q, 8, none⟩ (.int .i64 aa)).setCell ⟨q, 9, none⟩ (.bool hn)).setCell ⟨q, 10, none⟩ (.int .i64 no)).cell? ⟨q, 3, none⟩ = some (.int .i32 px) ∧ (((((((((((v.setCell ⟨q, 0, none⟩ (.string s)).setCell ⟨q, 1, none⟩ (.bool hp)).setCell ⟨q, 2, none⟩ (.string p)).setCell ⟨q, 3, none⟩ (.int .i32 px)).setCell ⟨q, 4, none⟩ (.string an)).setCell ⟨q, 5, none⟩ (.bool ht)).setCell ⟨q, 6, none⟩ (.bool ha)).setCell ⟨q, 7, none⟩ (.int .i64 ta)).setCell ⟨q, 8, none⟩ (.int .i64 aa)).setCell ⟨q, 9, none⟩ (.bool hn)).setCell ⟨q, 10, none⟩ (.int .i64 no)).cell? ⟨q, 4, none⟩ = some (.string an) ∧ (((((((((((v.setCell ⟨q, 0, none⟩ (.string s)).setCell ⟨q, 1, none⟩ (.bool hp)).setCell ⟨q, 2, none⟩ (.string p)).setCell ⟨q, 3, none⟩ (.int .i32 px)).setCell ⟨q, 4, none⟩ (.string an)).setCell ⟨q, 5, none⟩ (.bool ht)).setCell ⟨q, 6, none⟩ (.bool ha)).setCell ⟨q, 7, none⟩ (.int .i64 ta)).setCell ⟨q, 8, none⟩ (.int .i64 aa)).setCell ⟨q, 9, none⟩ (.bool hn)).setCell ⟨q, 10, none⟩ (.int .i64 no)).cell? ⟨q, 5, none⟩ = some (.bool ht) ∧ (((((((((((v.setCell ⟨q, 0, none⟩ (.string s)).setCell ⟨q, 1, none⟩ (.bool hp)).setCell ⟨q, 2, none⟩ (.string p)).setCell ⟨q, 3, none⟩ (.int .i32 px)).setCell ⟨q, 4, none⟩ (.string an)).setCell ⟨q, 5, none⟩ (.bool ht)).setCell ⟨q, 6, none⟩ (.bool ha)).setCell ⟨q, 7, none⟩ (.int .i64 ta)).setCell ⟨q, 8, none⟩ (.int .i64 aa)).setCell ⟨q, 9, none⟩ (.bool hn)).setCell ⟨q, 10, none⟩ (.int .i64 no)).cell? ⟨q, 6, none⟩ = some (.bool ha) ∧ (((((((((((v.setCell ⟨q, 0, none⟩ (.string s)).setCell ⟨q, 1, none⟩ (.bool hp)).setCell ⟨q, 2, none⟩ (.string p)).setCell ⟨q, 3, none⟩ (.int .i32 px)).setCell ⟨q, 4, none⟩ (.string an)).setCell ⟨q, 5, none⟩ (.bool ht)).setCell ⟨q, 6, none⟩ (.bool ha)).setCell ⟨q, 7, none⟩ (.int .i64 ta)).setCell ⟨q, 8, none⟩ (.int .i64 aa)).setCell ⟨q, 9, none⟩ (.bool hn)).setCell ⟨q, 10, none⟩ (.int .i64 no)).cell? ⟨q, 7, none⟩ = some (.int .i64 ta) ∧ (((((((((((v.setCell ⟨q, 0, none⟩ (.string s)).setCell ⟨q, 1, none⟩ (.bool hp)).setCell ⟨q, 2, none⟩ (.string p)).setCell ⟨q, 3, none⟩ (.int .i32 px)).setCell ⟨q, 4, none⟩ (.string an)).setCell ⟨q, 5, none⟩ (.bool ht)).setCell ⟨q, 6, none⟩ (.bool ha)).setCell ⟨q, 7, none⟩ (.int .i64 ta)).setCell ⟨q, 8, none⟩ (.int .i64 aa)).setCell ⟨q, 9, none⟩ (.bool hn)).setCell ⟨q, 10, none⟩ (.int .i64 no)).cell? ⟨q, 8, none⟩ = some (.int .i64 aa) ∧ (((((((((((v.setCell ⟨q, 0, none⟩ (.string s)).setCell ⟨q, 1, none⟩ (.bool hp)).setCell ⟨q, 2, none⟩ (.string p)).setCell ⟨q, 3, none⟩ (.int .i32 px)).setCell ⟨q, 4, none⟩ (.string an)).setCell ⟨q, 5, none⟩ (.bool ht)).setCell ⟨q, 6, none⟩ (.bool ha)).setCell ⟨q, 7, none⟩ (.int .i64 ta)).setCell ⟨q, 8, none⟩ (.int .i64 aa)).setCell ⟨q, 9, none⟩ (.bool hn)).setCell ⟨q, 10, none⟩ (.int .i64 no)).cell? ⟨q, 9, none⟩ = some (.bool hn) ∧ (((((((((((v.setCell ⟨q, 0, none⟩ (.string s)).setCell ⟨q, 1, none⟩ (.bool hp)).setCell ⟨q, 2, none⟩ (.string p)).setCell ⟨q, 3, none⟩ (.int .i32 px)).setCell ⟨q, 4, none⟩ (.string an)).setCell ⟨q, 5, none⟩ (.bool ht)).setCell ⟨q, 6, none⟩ (.bool ha)).setCell ⟨q, 7, none⟩ (.int .i64 ta)).setCell ⟨q, 8, none⟩ (.int .i64 aa)).setCell ⟨q, 9, none⟩ (.bool hn)).setCell ⟨q, 10, none⟩ (.int .i64 no)).cell? ⟨q, 10, none⟩ = some (.int .i64 no)) ∧ Below w.heap.size w (((((((((((v.setCell ⟨q, 0, none⟩ (.string s)).setCell ⟨q, 1, none⟩ (.bool hp)).setCell ⟨q, 2, none⟩ (.string p)).setCell ⟨q, 3, none⟩ (.int .i32 px)).setCell ⟨q, 4, none⟩ (.string an)).setCell ⟨q, 5, none⟩ (.bool ht)).setCell ⟨q, 6, none⟩ (.bool ha)).setCell ⟨q, 7, none⟩ (.int .i64 ta)).setCell ⟨q, 8, none⟩ (.int .i64 aa)).setCell ⟨q, 9, none⟩ (.bool hn)).setCell ⟨q, 10, none⟩ (.int .i64 no)) := by
  have hin := World.cell?_setCells_in q [.string s, .bool hp, .string p, .int .i32 px, .string an, .bool ht, .bool ha, .int .i64 ta, .int .i64 aa, .bool hn, .int .i64 no] 0 v (by intro j hj; rw [Nat.zero_add]; exact hx j (by simpa using hj))
  refine ⟨⟨hin 0 (by simp), hin 1 (by simp), hin 2 (by simp), hin 3 (by simp), hin 4 (by simp), hin 5 (by simp), hin 6 (by simp), hin 7 (by simp), hin 8 (by simp), hin 9 (by simp), hin 10 (by simp)⟩, below_setCells hq [.string s, .bool hp, .string p, .int .i32 px, .string an, .bool ht, .bool ha, .int .i64 ta, .int .i64 aa, .bool hn, .int .i64 no] 0 v hb⟩

theorem res9 (tmps : Array Value) (W : World) (q : Nat) (s : ByteArray) (hp : Bool) (p : ByteArray) (px : Int) (an : ByteArray) (ht ha : Bool) (ta aa : Int) (hn : Bool) (no : Int) (h4 : tmps.getD 4 undef = .pointer (some ⟨q, 0, none⟩)) (h5 : tmps.getD 5 undef = .nilIface)
    (hc : W.cell? ⟨q, 0, none⟩ = some (.string s) ∧ W.cell? ⟨q, 1, none⟩ = some (.bool hp) ∧ W.cell? ⟨q, 2, none⟩ = some (.string p) ∧ W.cell? ⟨q, 3, none⟩ = some (.int .i32 px) ∧ W.cell? ⟨q, 4, none⟩ = some (.string an) ∧ W.cell? ⟨q, 5, none⟩ = some (.bool ht) ∧ W.cell? ⟨q, 6, none⟩ = some (.bool ha) ∧ W.cell? ⟨q, 7, none⟩ = some (.int .i64 ta) ∧ W.cell? ⟨q, 8, none⟩ = some (.int .i64 aa) ∧ W.cell? ⟨q, 9, none⟩ = some (.bool hn) ∧ W.cell? ⟨q, 10, none⟩ = some (.int .i64 no)) : (results Try.f9 tmps).run Try.prog W = .ok (.tuple #[zv s hp p px an ht ha ta aa hn no, .nilIface]) W := by
  obtain ⟨c0, c1, c2, c3, c4, c5, c6, c7, c8, c9, c10⟩ := hc
  simp at h4 h5
  simp [results, Try.results9, go_sem, h4, h5, c0, c1, c2, c3, c4, c5, c6, c7, c8, c9, c10]

theorem fromProps' (pp : Option Addr) (hp : Bool) (p : ByteArray) (s : ByteArray) (px : Int) (an : ByteArray) (ht ha : Bool) (ta aa : Int) (nd : Option Addr) (hn : Bool) (no : Int) (w : World) (h1 : PreIs w pp hp p) (h2 : NodeIs w nd hn no) :
    Calls Try.prog 20 #[pv pp s px an ht ha ta aa nd] w fun e w' => e = .returned (zv s hp (pk hp p ⟨#[]⟩) px an ht ha ta aa hn (pk hn no 0)) ∧ Below w.heap.size w w' := fromProps_calls pp hp p s px an ht ha ta aa nd hn no w h1 h2

set_option maxHeartbeats 8000000 in
theorem zzmerge_ok (a_s : ByteArray) (ahp : Bool) (ap : ByteArray) (apx : Int) (aan : ByteArray) (aht aha : Bool) (ata aaa : Int) (ahn : Bool) (ano : Int)
    (bs : ByteArray) (bhp : Bool) (bp : ByteArray) (bpx : Int) (ban : ByteArray) (bht bha : Bool) (bta baa : Int) (bhn : Bool) (bno : Int) (w : World) (h1 : (bht && aht) = false) (h2 : (bha && aha) = false) :
    Calls Try.prog 9 #[zv a_s ahp ap apx aan aht aha ata aaa ahn ano, zv bs bhp bp bpx ban bht bha bta baa bhn bno] w fun e w' =>
      e = .returned (.tuple #[zv (pk bht bs a_s) (pk bht bhp ahp) (pk (pk bht bhp ahp) (pk bht bp ap) ⟨#[]⟩) (pk bht bpx apx) (pk bha ban aan) (pk bht true aht) (pk bha true aha) (pk bht bta ata) (pk bha baa aaa)
        (pk bha bhn ahn) (pk (pk bha bhn ahn) (pk bha bno ano) 0), .nilIface]) ∧ Below w.heap.size w w' := by
  have H1 : Hid ((bht && aht) = false) := h1
  have H2 : Hid ((bha && aha) = false) := h2
  clear h1 h2
  go_enter Try.func9, Try.ntmps9
  go_upto_region 0 with fail
  go_cut [2, 3, 4, 5] from 6 (fun s2 s3 s4 s5 wc => s2 = .pointer (some ⟨w.heap.size, 0, none⟩) ∧ s3 = .pointer (some ⟨w.heap.size + 1, 0, none⟩) ∧ s4 = .pointer (some ⟨w.heap.size + 1 + 1, 0, none⟩) ∧ s5 = .nilIface ∧ Below w.heap.size w wc ∧
      (∀ o, wc.cell? ⟨w.heap.size, o, none⟩ = (#[.string a_s, .bool ahp, .string ap, .int .i32 apx, .string aan, .bool aht, .bool aha, .int .i64 ata, .int .i64 aaa, .bool ahn, .int .i64 ano] : Array Value)[o]?) ∧ (∀ o, wc.cell? ⟨w.heap.size + 1, o, none⟩ = (#[.string bs, .bool bhp, .string bp, .int .i32 bpx, .string ban, .bool bht, .bool bha, .int .i64 bta, .int .i64 baa, .bool bhn, .int .i64 bno] : Array Value)[o]?) ∧
      (∀ o, wc.cell? ⟨w.heap.size + 1 + 1, o, none⟩ = (#[.string ⟨#[]⟩, .bool false, .string ⟨#[]⟩, .int .i32 0, .string ⟨#[]⟩, .bool false, .bool false, .int .i64 0, .int .i64 0, .bool false, .int .i64 0] : Array Value)[o]?) ∧ (∀ o, wc.frozen? ⟨w.heap.size + 1 + 1, o, none⟩ = false) ∧ w.heap.size + 1 + 1 < wc.heap.size)
  case first =>
    go_wp2_with fail
    go_meet
    case rel =>
      refine ⟨rfl, rfl, rfl, rfl, by repeat (first | exact Below.refl _ _ | refine Below.alloc ?_ (by simp <;> omega) _), ?_, ?_, ?_, ?_, by simp⟩
      all_goals
        intro o
        simp [go_sem]
  case rest =>
    obtain ⟨rfl, rfl, rfl, rfl, hbc, hca, hcb, hcr, hfr, hsz⟩ := hcut
    have hR : QS zero11 (w.heap.size + 1 + 1) wc := ⟨hcr, hfr, hsz⟩
    clear hcr hfr
    have hs0 : w.heap.size < wc.heap.size := by omega
    have hs1 : w.heap.size + 1 < wc.heap.size := by omega
    have hZ : Hid (ZS w a_s ahp ap apx aan aht aha ata aaa ahn ano bs bhp bp bpx ban bht bha bta baa bhn bno wc) := show ZS w a_s ahp ap apx aan aht aha ata aaa ahn ano bs bhp bp bpx ban bht bha bta baa bhn bno wc from ⟨hca 0, hca 1, hca 2, hca 3, hca 4, hca 5, hca 6, hca 7, hca 8, hca 9, hca 10, hcb 0, hcb 1, hcb 2, hcb 3, hcb 4, hcb 5, hcb 6, hcb 7, hcb 8, hcb 9, hcb 10, hs0, hs1, hsz⟩
    obtain ⟨x0, x1, x2, x3, x4, x5, x6, x7, x8, x9, x10, x11, x12, x13, x14, x15, x16, x17, x18, x19, x20, x21, s0, s1, s2⟩ := hZ.out
    clear hca hcb
    go_upto_region 1 with fail
    go_cut [6, 7] from 8 (fun s6 s7 wd => ∃ q pp nd, s6 = .pointer (some ⟨q, 0, none⟩) ∧ s7 = .nilIface ∧ ZM w wd q pp (pk bht bs a_s) (pk bht bpx apx) (pk bha ban aan) (pk bht true aht) (pk bha true aha) (pk bht bta ata) (pk bha baa aaa) nd ∧
        PreIs wd pp (pk bht bhp ahp) (pk bht bp ap) ∧ NodeIs wd nd (pk bha bhn ahn) (pk bha bno ano))
    case first =>
      have hQ := True.intro
      have hp1 := True.intro
      go_region_with (first
        | (go_at_call 19; refine (toProps_calls _ _ _ _ _ _ _ _ _ _ _ _).mono ?_; rintro e w' ⟨pp, nd, rfl, hb, hp, hn⟩; (first | have hB := below_at hZ hb | have hB := below_at hZ (below_of_drew hb) | have hB := below_at hZ (below_of_alloc hb) | have hB := below_at hZ (below_of_both hb)); have hZ := ZS.keep hB hZ; obtain ⟨x0, x1, x2, x3, x4, x5, x6, x7, x8, x9, x10, x11, x12, x13, x14, x15, x16, x17, x18, x19, x20, x21, s0, s1, s2⟩ := hZ.out; have hbc := hbc.trans (hB.mono hbc.size); have hR := QS.keep hB hR; (first | (have hp1 := PreIs.later hp1 hB; have hn1 := NodeIs.later hn1 hB; have hp2 := hp; have hn2 := hn) | (have hp1 := hp; have hn1 := hn)); (first | (have hQ := QS.keep hb hQ; obtain ⟨hq, hqf, hql⟩ := QS.out hQ) | (have hQ := QS.new hb; obtain ⟨hq, hqf, hql⟩ := QS.out hQ) | (have hQ := QS.newd hb; obtain ⟨hq, hqf, hql⟩ := QS.out hQ) | skip))
        | (go_at_call 18; refine (merge_ok' _ _ _ _ _ _ _ _ _ _ _ _ _ _ _ _ _ _ _ H1.out H2.out).mono ?_; rintro e w' ⟨rfl, hb⟩; (first | have hB := below_at hZ hb | have hB := below_at hZ (below_of_drew hb) | have hB := below_at hZ (below_of_alloc hb) | have hB := below_at hZ (below_of_both hb)); have hZ := ZS.keep hB hZ; obtain ⟨x0, x1, x2, x3, x4, x5, x6, x7, x8, x9, x10, x11, x12, x13, x14, x15, x16, x17, x18, x19, x20, x21, s0, s1, s2⟩ := hZ.out; have hbc := hbc.trans (hB.mono hbc.size); have hR := QS.keep hB hR; have hp1 := PreIs.later hp1 hB; have hn1 := NodeIs.later hn1 hB; have hp2 := PreIs.later hp2 hB; have hn2 := NodeIs.later hn2 hB; (first | (have hQ := QS.keep hb hQ; obtain ⟨hq, hqf, hql⟩ := QS.out hQ) | (have hQ := QS.new hb; obtain ⟨hq, hqf, hql⟩ := QS.out hQ) | (have hQ := QS.newd hb; obtain ⟨hq, hqf, hql⟩ := QS.out hQ) | skip)))
      all_goals
        go_wp2_with fail
        go_meet
        case rel =>
          (first | (have hpa : PreIs _ _ ahp ap := hp1; have hpb : PreIs _ _ bhp bp := hp2; have hna : NodeIs _ _ ahn ano := hn1; have hnb : NodeIs _ _ bhn bno := hn2) | (have hpa : PreIs _ _ ahp ap := hp2; have hpb : PreIs _ _ bhp bp := hp1; have hna : NodeIs _ _ ahn ano := hn2; have hnb : NodeIs _ _ bhn bno := hn1))
          clear hp1 hp2 hn1 hn2
          (first | (have hQQ := (QS.out hQ).2.2; refine ⟨_, _, _, rfl, rfl, finA' hbc hR hQ (by omega) (PreIs.pick bht hpa hpb) (NodeIs.pick bha hna hnb)⟩) | (refine ⟨_, _, _, rfl, rfl, finB hbc hR (PreIs.pick bht hpa hpb) (NodeIs.pick bha hna hnb)⟩))
    case rest =>
      obtain ⟨q, pp, nd, rfl, rfl, hZM, hP, hN⟩ := hcut
      clear hbc hR hZ x0 x1 x2 x3 x4 x5 x6 x7 x8 x9 x10 x11 x12 x13 x14 x15 x16 x17 x18 x19 x20 x21 s0 s1 s2 hs0 hs1 hsz
      have y0 := hZM.q0
      have y1 := hZM.q1
      have y2 := hZM.q2
      have y3 := hZM.q3
      have y4 := hZM.q4
      have y5 := hZM.q5
      have y6 := hZM.q6
      have y7 := hZM.q7
      have y8 := hZM.q8
      have HZM : Hid (ZM w wc q pp (pk bht bs a_s) (pk bht bpx apx) (pk bha ban aan) (pk bht true aht) (pk bha true aha) (pk bht bta ata) (pk bha baa aaa) nd) := hZM
      clear hZM
      go_wp2_with fail
      refine (fromProps' _ (pk bht bhp ahp) (pk bht bp ap) _ _ _ _ _ _ _ _ (pk bha bhn ahn) (pk bha bno ano) _ hP hN).mono ?_
      rintro e w5 ⟨rfl, hb5⟩
      have hw := HZM.out.below
      have hsz := HZM.out.size
      have hbb := hw.trans (hb5.mono hw.size)
      have hr := fun o => (hb5.cell (p := ⟨w.heap.size + 1 + 1, o, none⟩) hsz).trans (HZM.out.res o)
      have hf := fun o => (hb5.frozen (p := ⟨w.heap.size + 1 + 1, o, none⟩) hsz).trans (HZM.out.fro o)
      have r0 := hr 0
      have r1 := hr 1
      have r2 := hr 2
      have r3 := hr 3
      have r4 := hr 4
      have r5 := hr 5
      have r6 := hr 6
      have r7 := hr 7
      have r8 := hr 8
      have r9 := hr 9
      have r10 := hr 10
      have HX : Hid (∀ j, j < 11 → (w5.cell? ⟨w.heap.size + 1 + 1, j, none⟩).isSome = true) := by
        intro j hj
        rw [hr j]
        simp [hj]
      clear hr y0 y1 y2 y3 y4 y5 y6 y7 y8 hb5 hw hP hN HZM
      simp only [List.getElem?_toArray, List.getElem?_cons_zero, List.getElem?_cons_succ] at r0 r1 r2 r3 r4 r5 r6 r7 r8 r9 r10
      go_wp2
      obtain ⟨hcc, hbl⟩ := nest11 (w := w) (v := w5) (q := w.heap.size + 1 + 1) (pk bht bs a_s) (pk bht bhp ahp) (pk (pk bht bhp ahp) (pk bht bp ap) ⟨#[]⟩) (pk bht bpx apx) (pk bha ban aan) (pk bht true aht) (pk bha true aha) (pk bht bta ata) (pk bha baa aaa) (pk bha bhn ahn) (pk (pk bha bhn ahn) (pk bha bno ano) 0) HX.out hbb (by omega)
      exact bodyPost_ret (res9 _ _ (w.heap.size + 1 + 1) (pk bht bs a_s) (pk bht bhp ahp) (pk (pk bht bhp ahp) (pk bht bp ap) ⟨#[]⟩) (pk bht bpx apx) (pk bha ban aan) (pk bht true aht) (pk bha true aha) (pk bht bta ata) (pk bha baa aaa) (pk bha bhn ahn) (pk (pk bha bhn ahn) (pk bha bno ano) 0) rfl rfl hcc) rfl ⟨rfl, hbl⟩
end Go.Proofs.Qxb6002391a

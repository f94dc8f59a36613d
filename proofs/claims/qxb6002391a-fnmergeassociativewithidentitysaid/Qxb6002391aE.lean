import Derived.Test.Qxb6002391aD
namespace Go.Proofs.Qxb6002391a
open Go.RowKit
set_option linter.unusedSimpArgs false
set_option linter.unusedVariables false

theorem res9e (tmps : Array Value) (W : World) (q : Nat) (ev : Value) (s : ByteArray) (hp : Bool) (p : ByteArray) (px : Int) (an : ByteArray) (ht ha : Bool) (ta aa : Int) (hn : Bool) (no : Int) (h4 : tmps.getD 4 undef = .pointer (some ⟨q, 0, none⟩)) (h5 : tmps.getD 5 undef = ev)
    (hc : W.cell? ⟨q, 0, none⟩ = some (.string s) ∧ W.cell? ⟨q, 1, none⟩ = some (.bool hp) ∧ W.cell? ⟨q, 2, none⟩ = some (.string p) ∧ W.cell? ⟨q, 3, none⟩ = some (.int .i32 px) ∧ W.cell? ⟨q, 4, none⟩ = some (.string an) ∧ W.cell? ⟨q, 5, none⟩ = some (.bool ht) ∧ W.cell? ⟨q, 6, none⟩ = some (.bool ha) ∧ W.cell? ⟨q, 7, none⟩ = some (.int .i64 ta) ∧ W.cell? ⟨q, 8, none⟩ = some (.int .i64 aa) ∧ W.cell? ⟨q, 9, none⟩ = some (.bool hn) ∧ W.cell? ⟨q, 10, none⟩ = some (.int .i64 no)) : (results Try.f9 tmps).run Try.prog W = .ok (.tuple #[zv s hp p px an ht ha ta aa hn no, ev]) W := by
  obtain ⟨c0, c1, c2, c3, c4, c5, c6, c7, c8, c9, c10⟩ := hc
  simp at h4 h5
  simp [results, Try.results9, go_sem, h4, h5, c0, c1, c2, c3, c4, c5, c6, c7, c8, c9, c10]

theorem preNo {v : World} : PreIs v none false ⟨#[]⟩ := ⟨by simp, fun _ => rfl⟩
theorem nodeNo {v : World} : NodeIs v none false 0 := ⟨by simp, fun _ => rfl⟩
theorem fromPropsNo (s : ByteArray) (px : Int) (an : ByteArray) (ht ha : Bool) (ta aa : Int) (w : World) :
    Calls Try.prog 20 #[pv none s px an ht ha ta aa none] w fun e w' => e = .returned (zv s false ⟨#[]⟩ px an ht ha ta aa false 0) ∧ Below w.heap.size w w' := fromProps_calls none false ⟨#[]⟩ s px an ht ha ta aa none false 0 w preNo nodeNo

set_option maxHeartbeats 8000000 in
theorem zzmerge_clash (a_s : ByteArray) (ahp : Bool) (ap : ByteArray) (apx : Int) (aan : ByteArray) (aht aha : Bool) (ata aaa : Int) (ahn : Bool) (ano : Int)
    (bs : ByteArray) (bhp : Bool) (bp : ByteArray) (bpx : Int) (ban : ByteArray) (bht bha : Bool) (bta baa : Int) (bhn : Bool) (bno : Int) (w : World) (h : (bht && aht) = true ∨ (bha && aha) = true) :
    Calls Try.prog 9 #[zv a_s ahp ap apx aan aht aha ata aaa ahn ano, zv bs bhp bp bpx ban bht bha bta baa bhn bno] w fun e w' =>
      ∃ x, e = .returned (.tuple #[zv ⟨#[]⟩ false ⟨#[]⟩ 0 ⟨#[]⟩ false false 0 0 false 0, .iface 48 (.pointer (some x))]) ∧ Below w.heap.size w w' := by
  have H1 : Hid ((bht && aht) = true ∨ (bha && aha) = true) := h
  clear h
  go_enter Try.func9, Try.ntmps9
  go_upto_region 0 with fail
  go_cut [2, 3, 4, 5] from 6 (fun s2 s3 s4 s5 wc => s2 = .pointer (some ⟨w.heap.size, 0, none⟩) ∧ s3 = .pointer (some ⟨w.heap.size + 1, 0, none⟩) ∧ s4 = .pointer (some ⟨w.heap.size + 1 + 1, 0, none⟩) ∧ s5 = .nilIface ∧ Below w.heap.size w wc ∧
      (∀ o, wc.cell? ⟨w.heap.size, o, none⟩ = (#[.string a_s, .bool ahp, .string ap, .int .i32 apx, .string aan, .bool aht, .bool aha, .int .i64 ata, .int .i64 aaa, .bool ahn, .int .i64 ano] : Array Value)[o]?) ∧ (∀ o, wc.cell? ⟨w.heap.size + 1, o, none⟩ = (#[.string bs, .bool bhp, .string bp, .int .i32 bpx, .string ban, .bool bht, .bool bha, .int .i64 bta, .int .i64 baa, .bool bhn, .int .i64 bno] : Array Value)[o]?) ∧
      (∀ o, wc.cell? ⟨w.heap.size + 1 + 1, o, none⟩ = (#[.string ⟨#[]⟩, .bool false, .string ⟨#[]⟩, .int .i32 0, .string ⟨#[]⟩, .bool false, .bool false, .int .i64 0, .int .i64 0, .bool false, .int .i64 0] : Array Value)[o]?) ∧ (∀ o, wc.frozen? ⟨w.heap.size + 1 + 1, o, none⟩ = false) ∧ w.heap.size + 1 + 1 < wc.heap.size)
  case first =>
    go_wp2_with fail
    go_meet
    case rel =>
      refine ⟨rfl, rfl, rfl, rfl, by repeat (first | exact Below.refl _ _ | refine Below.alloc ?_ (by simp <;> omega) _), ?_, ?_, ?_, ?_, by simp⟩
      all_goals
        intro o
        simp [go_sem]
  case rest =>
    obtain ⟨rfl, rfl, rfl, rfl, hbc, hca, hcb, hcr, hfr, hsz⟩ := hcut
    have hR : QS zero11 (w.heap.size + 1 + 1) wc := ⟨hcr, hfr, hsz⟩
    clear hcr hfr
    have hs0 : w.heap.size < wc.heap.size := by omega
    have hs1 : w.heap.size + 1 < wc.heap.size := by omega
    have hZ : Hid (ZS w a_s ahp ap apx aan aht aha ata aaa ahn ano bs bhp bp bpx ban bht bha bta baa bhn bno wc) := show ZS w a_s ahp ap apx aan aht aha ata aaa ahn ano bs bhp bp bpx ban bht bha bta baa bhn bno wc from ⟨hca 0, hca 1, hca 2, hca 3, hca 4, hca 5, hca 6, hca 7, hca 8, hca 9, hca 10, hcb 0, hcb 1, hcb 2, hcb 3, hcb 4, hcb 5, hcb 6, hcb 7, hcb 8, hcb 9, hcb 10, hs0, hs1, hsz⟩
    obtain ⟨x0, x1, x2, x3, x4, x5, x6, x7, x8, x9, x10, x11, x12, x13, x14, x15, x16, x17, x18, x19, x20, x21, s0, s1, s2⟩ := hZ.out
    clear hca hcb
    go_upto_region 1 with fail
    go_cut [6, 7] from 8 (fun s6 s7 wd => ∃ q x, s6 = .pointer (some ⟨q, 0, none⟩) ∧ s7 = .iface 48 (.pointer (some x)) ∧ ZM w wd q none ⟨#[]⟩ 0 ⟨#[]⟩ false false 0 0 none)
    case first =>
      have hQ := True.intro
      have hp1 := True.intro
      go_region_with (first
        | (go_at_call 19; refine (toProps_calls _ _ _ _ _ _ _ _ _ _ _ _).mono ?_; rintro e w' ⟨pp, nd, rfl, hb, hp, hn⟩; (first | have hB := below_at hZ hb | have hB := below_at hZ (below_of_drew hb) | have hB := below_at hZ (below_of_alloc hb) | have hB := below_at hZ (below_of_both hb)); have hZ := ZS.keep hB hZ; obtain ⟨x0, x1, x2, x3, x4, x5, x6, x7, x8, x9, x10, x11, x12, x13, x14, x15, x16, x17, x18, x19, x20, x21, s0, s1, s2⟩ := hZ.out; have hbc := hbc.trans (hB.mono hbc.size); have hR := QS.keep hB hR; (first | (have hp1 := PreIs.later hp1 hB; have hn1 := NodeIs.later hn1 hB; have hp2 := hp; have hn2 := hn) | (have hp1 := hp; have hn1 := hn)); (first | (have hQ := QS.keep hb hQ; obtain ⟨hq, hqf, hql⟩ := QS.out hQ) | (have hQ := QS.new hb; obtain ⟨hq, hqf, hql⟩ := QS.out hQ) | (have hQ := QS.newd hb; obtain ⟨hq, hqf, hql⟩ := QS.out hQ) | skip))
        | (go_at_call 18; refine (merge_clash _ _ _ _ _ _ _ _ _ _ _ _ _ _ _ _ _ _ _ H1.out).mono ?_; rintro e w' ⟨xx, rfl, hb⟩; (first | have hB := below_at hZ hb | have hB := below_at hZ (below_of_drew hb) | have hB := below_at hZ (below_of_alloc hb) | have hB := below_at hZ (below_of_both hb)); have hZ := ZS.keep hB hZ; obtain ⟨x0, x1, x2, x3, x4, x5, x6, x7, x8, x9, x10, x11, x12, x13, x14, x15, x16, x17, x18, x19, x20, x21, s0, s1, s2⟩ := hZ.out; have hbc := hbc.trans (hB.mono hbc.size); have hR := QS.keep hB hR; have hp1 := PreIs.later hp1 hB; have hn1 := NodeIs.later hn1 hB; have hp2 := PreIs.later hp2 hB; have hn2 := NodeIs.later hn2 hB; (first | (have hQ := QS.keep hb hQ; obtain ⟨hq, hqf, hql⟩ := QS.out hQ) | (have hQ := QS.new hb; obtain ⟨hq, hqf, hql⟩ := QS.out hQ) | (have hQ := QS.newd hb; obtain ⟨hq, hqf, hql⟩ := QS.out hQ) | skip)))
      all_goals
        go_wp2_with fail
        go_meet
        case rel =>
          clear hp1 hp2 hn1 hn2
          (first | (have hQQ := (QS.out hQ).2.2; refine ⟨_, _, rfl, rfl, (finA' hbc hR hQ (by omega) preNo nodeNo).1⟩) | (refine ⟨_, _, rfl, rfl, (finB hbc hR preNo nodeNo).1⟩))
    case rest =>
      obtain ⟨q, x, rfl, rfl, hZM⟩ := hcut
      clear hbc hR hZ x0 x1 x2 x3 x4 x5 x6 x7 x8 x9 x10 x11 x12 x13 x14 x15 x16 x17 x18 x19 x20 x21 s0 s1 s2 hs0 hs1 hsz
      have y0 := hZM.q0
      have y1 := hZM.q1
      have y2 := hZM.q2
      have y3 := hZM.q3
      have y4 := hZM.q4
      have y5 := hZM.q5
      have y6 := hZM.q6
      have y7 := hZM.q7
      have y8 := hZM.q8
      have HZM : Hid (ZM w wc q none ⟨#[]⟩ 0 ⟨#[]⟩ false false 0 0 none) := hZM
      clear hZM
      go_wp2_with fail
      refine (fromPropsNo _ _ _ _ _ _ _ _).mono ?_
      rintro e w5 ⟨rfl, hb5⟩
      have hw := HZM.out.below
      have hsz := HZM.out.size
      have hbb := hw.trans (hb5.mono hw.size)
      have hr := fun o => (hb5.cell (p := ⟨w.heap.size + 1 + 1, o, none⟩) hsz).trans (HZM.out.res o)
      have hf := fun o => (hb5.frozen (p := ⟨w.heap.size + 1 + 1, o, none⟩) hsz).trans (HZM.out.fro o)
      have r0 := hr 0
      have r1 := hr 1
      have r2 := hr 2
      have r3 := hr 3
      have r4 := hr 4
      have r5 := hr 5
      have r6 := hr 6
      have r7 := hr 7
      have r8 := hr 8
      have r9 := hr 9
      have r10 := hr 10
      have HX : Hid (∀ j, j < 11 → (w5.cell? ⟨w.heap.size + 1 + 1, j, none⟩).isSome = true) := by
        intro j hj
        rw [hr j]
        simp [hj]
      clear hr y0 y1 y2 y3 y4 y5 y6 y7 y8 hb5 hw HZM
      simp only [List.getElem?_toArray, List.getElem?_cons_zero, List.getElem?_cons_succ] at r0 r1 r2 r3 r4 r5 r6 r7 r8 r9 r10
      go_wp2
      obtain ⟨hcc, hbl⟩ := nest11 (w := w) (v := w5) (q := w.heap.size + 1 + 1) ⟨#[]⟩ false ⟨#[]⟩ 0 ⟨#[]⟩ false false 0 0 false 0 HX.out hbb (by omega)
      exact bodyPost_ret (res9e _ _ (w.heap.size + 1 + 1) (.iface 48 (.pointer (some x))) ⟨#[]⟩ false ⟨#[]⟩ 0 ⟨#[]⟩ false false 0 0 false 0 rfl rfl hcc) rfl ⟨x, rfl, hbl⟩
end Go.Proofs.Qxb6002391a

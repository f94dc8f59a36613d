import Derived.Test.Qxb6602594aGrI
import Derived.Deep.CutRange
import Derived.BigRegion
import Derived.BigQuiet
namespace Go.Proofs.Qxb6602594a
open Go.RowKit
set_option linter.unusedSimpArgs false
set_option linter.unusedVariables false

set_option maxRecDepth 1000000 in
set_option maxHeartbeats 4000000 in
theorem components_calls (db eb tl : Nat) (tz kz : List Int) (oa : Option Addr) (n oc : Nat) (rs : List (List Int)) (kinds : Int) (w : World)
    (ht : tl ≤ 1048576) (hn : n ≤ 1048576) (hr : ∀ i, i < n → (rs.getD i []).length ≤ 1048576) (hD : Dg w db eb tl tz kz oa n oc rs) (hok : RowsAll n rs (EdOk tl tz kz n kinds)) (htw : I32s tz) :
    Calls Try.prog 45 #[.pointer (some ⟨db, 0, none⟩), .int .i64 kinds] w fun e w' => ∃ b S, e = .returned (.slice (some ⟨b, 0, none⟩) n n) ∧ Below w.heap.size w w' ∧ Tj.Rc n (adj tz kz rs kinds) S ∧ S.frames = [] ∧ (∀ v, v < n → S.index v ≠ 0) ∧ w'.rowIs b 21 n (fun i => iv (S.comp i)) := by
  have hmk := fun w => run_make_row' (P := Try.prog) 48 21 (.int .i32 0) 4 Try.underlying48 Try.info21 rfl .i64 .i64 n (by omega) (by omega) w
  have hmb := fun w => run_make_row' (P := Try.prog) 68 4 (.bool false) 1 Try.underlying68 Try.info4 rfl .i64 .i64 n (by omega) (by omega) w
  have HD : Hid (Dg w db eb tl tz kz oa n oc rs) := hD
  have HR : Hid (∀ i, i < n → (rs.getD i []).length ≤ 1048576) := hr
  have HOK : Hid (RowsAll n rs (EdOk tl tz kz n kinds)) := hok
  have HTW : Hid (I32s tz) := htw
  have d1 := hD.d1
  clear hD hr hok htw
  obtain ⟨i0, hi, hz0, hz1, hz2⟩ := info_parts Try.info21
  go_enter Try.func45, Try.ntmps45
  go_wp2_with fail
  have hG : ∀ x y, x < n → Tj.Ed (adj tz kz rs kinds) x y → y < n := by
    intro x y hx hy
    obtain ⟨e, he, h1⟩ := List.mem_map.1 hy
    obtain ⟨m, hm, rfl⟩ := List.mem_iff_getElem.1 he
    have h2 := HOK.out x hx m hm
    have h3 : (rs.getD x []).getD m 0 = (rs.getD x [])[m] := by rw [List.getD_eq_getElem?_getD, List.getElem?_eq_getElem hm]; rfl
    rw [h3] at h2
    obtain ⟨_, _, h4⟩ := h2
    split at h1
    · rename_i hc
      have := h4 hc
      simp only [Option.some.injEq] at h1
      omega
    · cases h1
  have HG : Hid (∀ x y, x < n → Tj.Ed (adj tz kz rs kinds) x y → y < n) := hG
  clear hG
  go_loopg [10, 11, 12, 34] n (fun gk vs nx cs i wr => ∃ (k : Nat) (S : Tj.St), k ≤ n ∧ gk + k = n ∧ i = .int .i64 k ∧ nx = .int .i32 S.next ∧ cs = .int .i32 S.comps ∧ Tj.Rc n (adj tz kz rs kinds) S ∧ S.frames = [] ∧ (∀ z, z < k → S.index z ≠ 0) ∧ Rep w wr n S.comp S.index S.low S.on S.stack vs [] (.slice none 0 0))
  case atStart => exact ⟨0, Tj.s0, Nat.zero_le _, rfl, rfl, rfl, rfl, Tj.Rc.start _ _, rfl, fun z hz => absurd hz (by omega), rep_start w n⟩
  case round =>
    obtain ⟨k, S, hkn, hgk, rfl, rfl, rfl, hRc, hSf, hvis, hRep⟩ := hrel
    have HRc : Hid (Tj.Rc n (adj tz kz rs kinds) S) := hRc
    have HV : Hid (∀ z, z < k → S.index z ≠ 0) := hvis
    have HF : Hid (S.frames = []) := hSf
    have HRep : Hid (Rep w wr n S.comp S.index S.low S.on S.stack u10 [] (.slice none 0 0)) := hRep
    have hnum := hRc.num HG.out
    have hnx := hnum.nextle
    have hnumc := hnum.comps
    clear hRc hvis hSf
    by_cases hlt : k < n
    · have hci := hRep.index.cell (i := k) hlt
      by_cases hik : S.index k = 0
      · have hb0 : (((S.index k : Nat) : Int) != 0) = false := by simp [hik]
        have hnl := hnum.nextlt k hlt hik
        have HIK : Hid (S.index k = 0) := hik
        clear hik hnum hRep
        have hfi := HRep.out.index.frozen k
        have hfl := HRep.out.low.frozen k
        have hcl := HRep.out.low.cell (i := k) hlt
        have hs1 : w.heap.size < wr.heap.size := by have := HRep.out.size; omega
        have hs2 : w.heap.size + 1 < wr.heap.size := by have := HRep.out.size; omega
        have hs3 : w.heap.size + 1 + 1 < wr.heap.size := by have := HRep.out.size; omega
        have hs4 : w.heap.size + 1 + 1 + 1 < wr.heap.size := by have := HRep.out.size; omega
        have hn1 : w.heap.size + 1 ≠ w.heap.size + 1 + 1 := by omega
        have hst : S.stack.length + 1 ≤ 1048576 := by have := hnumc; omega
        have HNX : Hid (S.next + 1 ≤ n) := hnl
        go_upto_region 15 with fail
        have HR2 : Hid (Rep w (((wr.setCell ⟨w.heap.size + 1, k, none⟩ (.int .i32 (S.next + 1))).setCell ⟨w.heap.size + 1 + 1, k, none⟩ (.int .i32 (S.next + 1))).alloc (.cells #[.int .i32 k, .int .i32 0] 103)) n S.comp (Tj.upd S.index k (S.next + 1)) (Tj.upd S.low k (S.next + 1)) S.on S.stack u10 [(k, 0)] (.slice (some ⟨wr.heap.size, 0, none⟩) 1 1)) := by
          have := ((HRep.out.setIndex k (S.next + 1)).setLow k (S.next + 1)).newFrames k
          simp only [World.size_setCell] at this
          exact this
        go_cut [10] from 35 to 246 (fun s10 wc => Rep w wc n S.comp (Tj.upd S.index k (S.next + 1)) (Tj.upd S.low k (S.next + 1)) S.on (k :: S.stack) s10 [(k, 0)] (.slice (some ⟨wr.heap.size, 0, none⟩) 1 1))
        case first =>
          go_wp2_with (at_builtin; (refine wpList_append_own _ rfl _ _ 48 rfl (w.heap.size + 4) 21 i0 (.int .i32 0) 1 4 Try.underlying48 hi hz0 hz1 hz2 rfl (by decide) _ _ _ rfl (HR2.out.stk.alloc _) ⟨_, 0, none⟩ 1 1 [.int .i32 k] rfl rfl (cell_one_new' _ _ _ _ (by simp)) (fun x hx => by simp at hx; subst hx; rfl) (by unfold maxLen; omega) (by omega) (by have := HR2.out.size; simp at this ⊢; omega) ?_); intro v1 w3 hown1 hgrow3 _)
          go_meet
          case rel => exact (HR2.out.alloc _).pushStack hown1 hgrow3
        case rest =>
          clear hci hcl hfi hfl hs1 hs2 hs3 hs4 hn1
          have hco := hcut.on.cell (i := k) hlt
          have hfo := hcut.on.frozen k
          have HC : Hid (Rep w wc n S.comp (Tj.upd S.index k (S.next + 1)) (Tj.upd S.low k (S.next + 1)) S.on (k :: S.stack) u10 [(k, 0)] (.slice (some ⟨wr.heap.size, 0, none⟩) 1 1)) := hcut
          clear hcut
          go_wp2
          refine inner' n eb tl oc k db tz kz rs oa kinds w _ _ _ (Tj.push S k) _ _ ht hn HR.out HD.out HOK.out HTW.out rfl (HRc.out.step (.inl ⟨k, hlt, HF.out, HIK.out, HV.out, rfl⟩)) ?_ ?_ ?_
          · intro z hz
            show Tj.upd S.index k (S.next + 1) z ≠ 0
            unfold Tj.upd
            split
            · omega
            · exact HV.out z (by omega)
          · have := HC.out.setOn k true
            show Rep w _ n S.comp (Tj.upd S.index k (S.next + 1)) (Tj.upd S.low k (S.next + 1)) (Tj.upd S.on k true) (k :: S.stack) _ ((k, 0) :: S.frames) _
            rw [HF.out]
            exact this
          · clear HC hco hfo HRc HV HF HRep HIK HR2 HNX hnl hnx hst hb0 hnumc
            intro S' vs' vf' u w' hRc' hF' hV' hRep'
            have HRc : Hid (Tj.Rc n (adj tz kz rs kinds) S') := hRc'
            have HFR : Hid (S'.frames = []) := hF'
            have HV : Hid (∀ z, z < k + 1 → S'.index z ≠ 0) := hV'
            have HRep : Hid (Rep w w' n S'.comp S'.index S'.low S'.on S'.stack vs' [] (.slice none 0 0)) := hRep'
            clear hRc' hF' hV' hRep'
            unfold Fr
            simp only [nth]
            go_wp2
            go_roundg (n - (k + 1))
            case rel =>
              refine ⟨k + 1, S', by omega, by omega, by go_num, rfl, rfl, HRc.out, HFR.out, HV.out, HRep.out⟩
            case measure => omega
      · have hb1 : (((S.index k : Nat) : Int) != 0) = true := by simp; exact hik
        have HIK : Hid (S.index k ≠ 0) := hik
        clear hik hnum hRep
        go_wp2
        go_roundg (n - (k + 1))
        case rel =>
          refine ⟨k + 1, S, by omega, by omega, by go_num, rfl, rfl, HRc.out, HF.out, fun z hz => ?_, HRep.out⟩
          by_cases e : z = k
          · rw [e]; exact HIK.out
          · exact HV.out z (by omega)
        case measure => omega
    · clear hnum
      go_wp2
      go_ret
      exact ⟨_, S, rfl, hRep.below, HRc.out, HF.out, fun v hv => HV.out v (by omega), hRep.comp⟩
end Go.Proofs.Qxb6602594a

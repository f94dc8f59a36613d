import Derived.Test.Qxb6602594aGrH
import Derived.Deep.CutRange
import Derived.BigRegion
import Derived.Deep.RegionHeld3
import Derived.BigQuiet
namespace Go.Proofs.Qxb6602594a
open Go.RowKit
set_option linter.unusedSimpArgs false
set_option linter.unusedVariables false


set_option maxRecDepth 1000000 in
set_option maxHeartbeats 4000000 in
theorem inner_pop_root (n eb tl oc k db x e : Nat) (tz kz : List Int) (rs : List (List Int)) (oa : Option Addr) (kinds : Int) (fs : List (Nat × Nat)) (w wr : World) (c u : Nat → Value) (S : Tj.St) (vs vf : Value) (Q0 : Exit → Act → World → Prop)
    (ht : tl ≤ 1048576) (hn : n ≤ 1048576) (hr : ∀ i, i < n → (rs.getD i []).length ≤ 1048576) (hD : Dg w db eb tl tz kz oa n oc rs) (hok : RowsAll n rs (EdOk tl tz kz n kinds)) (htw : I32s tz)
    (hF : S.frames = (x, e) :: fs) (hRc : Tj.Rc n (adj tz kz rs kinds) S) (hV : ∀ z, z < k + 1 → S.index z ≠ 0) (hRep : Rep w wr n S.comp S.index S.low S.on S.stack vs S.frames vf)
    (hlt : ¬ e < (rs.getD x []).length) (hfs : fs = []) (hlx : S.low x = S.index x) :
    Code.wp Try.prog (innerOf Try.f45) (Exit.then (fun a' w' => ∃ m', m' < Tj.pot n (adj tz kz rs kinds) S ∧ WI n (adj tz kz rs kinds) k db kinds w c m' a' w') Q0) (Fr db n w.heap.size kinds c u vs S.next S.comps vf) wr := by
  have HG : Hid (∀ x y, x < n → Tj.Ed (adj tz kz rs kinds) x y → y < n) := adj_lt hok
  have HRep2 : Hid (Rep w wr n S.comp S.index S.low S.on S.stack vs ((x, e) :: fs) vf) := by have := hRep; rw [hF] at this; exact this
  have hinv := hRc.inv HG.out
  have hnum := hRc.num HG.out
  have hxon := Tj.top_on hinv hF
  have hxn : x < n := hinv.vislt x (hinv.onvis x hxon)
  have hel : e ≤ (rs.getD x []).length := by have := hinv.fle (x, e) (by rw [hF]; simp); simpa [adj] using this
  have hfl : fs.length + 1 ≤ n := by have h1 := hnum.frames; have h2 := hnum.nextle; rw [hF] at h1; simp at h1; omega
  obtain ⟨g, cap, hvf, hgb, hcx, hce, hfz, hcap⟩ := HRep2.out.topFrame
  subst hvf
  have hDr := hD.later hRep.below
  obtain ⟨ob, ooff, hoa, hrow⟩ := hDr.rows.at_ (by omega)
  subst hoa
  obtain ⟨ra, rl, rc, hcr, hI⟩ := hrow x hxn
  have hd0 := hDr.d0
  have hd1 := hDr.d1
  have hll : rl ≤ 1048576 := by have := hr x hxn; rw [hI.length] at this; exact this
  rw [hI.length] at hel
  have HL : Hid ((rs.getD x []).length = rl) := hI.length
  have HF : Hid (S.frames = (x, e) :: fs) := hF
  have HV : Hid (∀ z, z < k + 1 → S.index z ≠ 0) := hV
  have HRc : Hid (Tj.Rc n (adj tz kz rs kinds) S) := hRc
  have HINV : Hid (Tj.Inv n (adj tz kz rs kinds) S) := hinv
  have HNUM : Hid (Tj.Num n S) := hnum
  have HXON : Hid (S.on x = true) := hxon
  have hee : e = rl := by have := HL.out; omega
  obtain rfl := hee
  have HP0 : Hid (Tj.pot n (adj tz kz rs kinds) (Tj.popf S x fs) < Tj.pot n (adj tz kz rs kinds) S) := Tj.pot_pop x e fs HF.out
  have HR0 : Hid (Tj.Rc n (adj tz kz rs kinds) (Tj.popf S x fs)) := HRc.out.step (.inr ⟨x, e, fs, HF.out, .inr ⟨by simpa [adj] using hlt, rfl⟩⟩)
  have HFS : Hid (fs = []) := hfs
  have HLE : Hid (S.low x = S.index x) := hlx
  clear hfs hlx
  have HLX : Tj.lowUp S x fs x = S.low x := Tj.lowUp_other S x fs x (Tj.top_not HINV.out HF.out)
  clear hI hDr hrow hF hinv hnum hxon hV hRc hRep hok hr hD htw
  conv => arg 2; whnf
  unfold Fr
  go_upto_region 19 with fail
  go_cut [88] from 64 to 245 (fun s88 wc => s88 = .bool false ∧ Rep w wc n S.comp S.index S.low S.on S.stack vs ((x, e) :: fs) (.slice (some ⟨g, 0, none⟩) (fs.length + 1) cap) ∧ Below wr.heap.size wr wc)
  case first =>
    go_quiet (fail)
    go_wp2
    go_meet
    case rel => exact ⟨rfl, HRep2.out.drewN _, below_drewN (Below.refl _ _) _⟩
  case rest =>
  obtain ⟨rfl, hR, -⟩ := hcut
  clear hcx hce hfz hcr hd0 hd1
  have hlx := HLE.out
  have hpos : decide ((0 : Int) < (fs.length : Int)) = false := by rw [HFS.out]; rfl
  have hpos2 : decide (0 < fs.length) = false := by rw [HFS.out]; rfl
  have hpos3 : ¬ (0 < fs.length) := by rw [HFS.out]; simp
  obtain ⟨tcx, tce, tfz, tgb, tgl⟩ := hR.topAt
  have HUP : Tj.lowUp S x fs = S.low := by rw [HFS.out]; rfl
  have HR1 : Hid (Rep w wc n S.comp S.index (Tj.lowUp S x fs) S.on S.stack vs fs (.slice (some ⟨g, 0, none⟩) fs.length cap))   := by rw [HUP]; exact hR.popFrame
  have hcx := HR1.out.low.cell (i := x) hxn
  rw [HLX] at hcx
  have hci := HR1.out.index.cell (i := x) hxn
  clear HUP
  go_upto_region 36 with fail
  go_cut [222] from 64 to 245 (fun s222 wd => s222 = .bool true ∧ Rep w wd n S.comp S.index (Tj.lowUp S x fs) S.on S.stack vs fs (.slice (some ⟨g, 0, none⟩) fs.length cap))
  case first =>
    go_quiet (fail)
    go_wp2
    go_meet
    case rel => exact ⟨by first | rfl | (simp [hlx]; done) | (simp; omega), HR1.out.drewN _⟩
  case rest =>
  obtain ⟨rfl, hR2⟩ := hcut
  clear HR1 hcx hci tcx tce tfz tgl hpos hpos2 hpos3
  have HBL : Hid (∀ z, z ∈ S.stack → z < n) := fun z hz => HINV.out.vislt z (HINV.out.onvis z ((HINV.out.memon z).1 hz))
  have HXS : Hid (x ∈ S.stack) := (HINV.out.memon x).2 HXON.out
  have hsl : S.stack.length ≤ 1048576 := by have h1 := HNUM.out.comps; have h2 := HNUM.out.nextle; omega
  have hcb : S.comps + 1 ≤ 1048576 := by
    have h1 := HNUM.out.comps
    have h2 := HNUM.out.nextle
    have h3 := List.length_pos_of_mem HXS.out
    omega
  have hS : Tj.popf S x fs = { S with frames := fs, low := Tj.lowUp S x fs, stack := Tj.behind x S.stack, on := Tj.setAll S.on (Tj.upTo x S.stack) false, comp := Tj.setAll S.comp (Tj.upTo x S.stack) S.comps, comps := S.comps + 1 } := by unfold Tj.popf; rw [if_pos hlx]
  rw [hS] at HP0 HR0
  have HR2 : Hid (Rep w wc n S.comp S.index (Tj.lowUp S x fs) S.on S.stack vs fs (.slice (some ⟨g, 0, none⟩) fs.length cap)) := hR2
  clear hS hR2 hlx HLE
  go_wp2
  go_loopg [10] S.stack.length (fun gk v10 wr => ∃ (d r : List Nat), S.stack = d ++ r ∧ x ∈ r ∧ x ∉ d ∧ gk = r.length ∧ Rep w wr n (Tj.setAll S.comp d S.comps) S.index (Tj.lowUp S x fs) (Tj.setAll S.on d false) r v10 fs (.slice (some ⟨g, 0, none⟩) fs.length cap))
  case atStart =>
    refine ⟨[], S.stack, rfl, HXS.out, by simp, rfl, ?_⟩
    rw [setAll_nil, setAll_nil]
    exact HR2.out
  case round =>
    obtain ⟨d, r, hsp, hxr, hxd, rfl, hRep⟩ := hrel
    clear HR2
    rcases r with _ | ⟨y, r⟩
    · simp at hxr
    · obtain ⟨gs, sc, hv, hgs, hcy, hsc⟩ := hRep.topStack
      subst hv
      have hyn : y < n := HBL.out y (by rw [hsp]; simp)
      have hrl : r.length + 1 ≤ 1048576 := by have := congrArg List.length hsp; simp at this; omega
      have HRp : Hid (Rep w ((wr.setCell ⟨w.heap.size + 1 + 1 + 1, y, none⟩ (.bool false)).setCell ⟨w.heap.size, y, none⟩ (.int .i32 S.comps)) n (Tj.setAll S.comp (d ++ [y]) S.comps) S.index (Tj.lowUp S x fs) (Tj.setAll S.on (d ++ [y]) false) r (.slice (some ⟨gs, 0, none⟩) r.length sc) fs (.slice (some ⟨g, 0, none⟩) fs.length cap)) := by
        have := (hRep.popStack.setOn y false).setComp y S.comps
        rw [upd_setAll, upd_setAll] at this
        exact this
      have HSP : Hid (S.stack = d ++ y :: r) := hsp
      have HXD : Hid (x ∉ d) := hxd
      have HXR : Hid (x ∈ y :: r) := hxr
      have co := hRep.on.cell (i := y) hyn
      have cof := hRep.on.frozen y
      have cc := hRep.comp.cell (i := y) hyn
      have ccf := hRep.comp.frozen y
      have nn : w.heap.size ≠ w.heap.size + 1 + 1 + 1 := by omega
      have nn' : w.heap.size + 1 + 1 + 1 ≠ w.heap.size := by omega
      clear hsp hxd hxr hRep
      by_cases hyx : y = x
      · subst hyx
        go_wp2
        obtain ⟨e1, e2⟩ := upTo_at y r d HXD.out
        rw [← HSP.out] at e1 e2
        have := HRp.out
        rw [← e1] at this
        have e3 : r = Tj.behind y S.stack := e2.symm
        refine ⟨_, HP0.out, { S with frames := fs, low := Tj.lowUp S y fs, stack := Tj.behind y S.stack, on := Tj.setAll S.on (Tj.upTo y S.stack) false, comp := Tj.setAll S.comp (Tj.upTo y S.stack) S.comps, comps := S.comps + 1 }, .slice (some ⟨gs, 0, none⟩) r.length sc, .slice (some ⟨g, 0, none⟩) fs.length cap, rfl, HR0.out, rfl, HV.out, ?_⟩
        show Rep w _ n (Tj.setAll S.comp (Tj.upTo y S.stack) S.comps) S.index (Tj.lowUp S y fs) (Tj.setAll S.on (Tj.upTo y S.stack) false) (Tj.behind y S.stack) _ fs _
        rw [← e3]
        exact this
      · have hyb : (((y : Nat) : Int) == ((x : Nat) : Int)) = false := by simp; omega
        go_wp2
        go_roundg r.length
        case rel =>
          refine ⟨d ++ [y], r, by rw [HSP.out]; simp, ?_, ?_, rfl, HRp.out⟩
          · rcases List.mem_cons.1 HXR.out with h | h
            · exact absurd h.symm hyx
            · exact h
          · intro hm
            rcases List.mem_append.1 hm with h | h
            · exact HXD.out h
            · exact hyx (by simpa using h : x = y).symm
        case measure => simp
end Go.Proofs.Qxb6602594a

import Derived.Test.Qxb6602594aGrH
import Derived.Deep.CutRange
import Derived.BigRegion
import Derived.Deep.RegionHeld3
import Derived.BigQuiet
namespace Go.Proofs.Qxb6602594a
open Go.RowKit
set_option linter.unusedSimpArgs false
set_option linter.unusedVariables false


set_option maxRecDepth 1000000 in
set_option maxHeartbeats 4000000 in
theorem inner_pop_stay (n eb tl oc k db x e : Nat) (tz kz : List Int) (rs : List (List Int)) (oa : Option Addr) (kinds : Int) (fs : List (Nat × Nat)) (w wr : World) (c u : Nat → Value) (S : Tj.St) (vs vf : Value) (Q0 : Exit → Act → World → Prop)
    (ht : tl ≤ 1048576) (hn : n ≤ 1048576) (hr : ∀ i, i < n → (rs.getD i []).length ≤ 1048576) (hD : Dg w db eb tl tz kz oa n oc rs) (hok : RowsAll n rs (EdOk tl tz kz n kinds)) (htw : I32s tz)
    (hF : S.frames = (x, e) :: fs) (hRc : Tj.Rc n (adj tz kz rs kinds) S) (hV : ∀ z, z < k + 1 → S.index z ≠ 0) (hRep : Rep w wr n S.comp S.index S.low S.on S.stack vs S.frames vf)
    (hlt : ¬ e < (rs.getD x []).length) (hfs : fs = []) (hlx : S.low x ≠ S.index x) :
    Code.wp Try.prog (innerOf Try.f45) (Exit.then (fun a' w' => ∃ m', m' < Tj.pot n (adj tz kz rs kinds) S ∧ WI n (adj tz kz rs kinds) k db kinds w c m' a' w') Q0) (Fr db n w.heap.size kinds c u vs S.next S.comps vf) wr := by
  have HG : Hid (∀ x y, x < n → Tj.Ed (adj tz kz rs kinds) x y → y < n) := adj_lt hok
  have HRep2 : Hid (Rep w wr n S.comp S.index S.low S.on S.stack vs ((x, e) :: fs) vf) := by have := hRep; rw [hF] at this; exact this
  have hinv := hRc.inv HG.out
  have hnum := hRc.num HG.out
  have hxon := Tj.top_on hinv hF
  have hxn : x < n := hinv.vislt x (hinv.onvis x hxon)
  have hel : e ≤ (rs.getD x []).length := by have := hinv.fle (x, e) (by rw [hF]; simp); simpa [adj] using this
  have hfl : fs.length + 1 ≤ n := by have h1 := hnum.frames; have h2 := hnum.nextle; rw [hF] at h1; simp at h1; omega
  obtain ⟨g, cap, hvf, hgb, hcx, hce, hfz, hcap⟩ := HRep2.out.topFrame
  subst hvf
  have hDr := hD.later hRep.below
  obtain ⟨ob, ooff, hoa, hrow⟩ := hDr.rows.at_ (by omega)
  subst hoa
  obtain ⟨ra, rl, rc, hcr, hI⟩ := hrow x hxn
  have hd0 := hDr.d0
  have hd1 := hDr.d1
  have hll : rl ≤ 1048576 := by have := hr x hxn; rw [hI.length] at this; exact this
  rw [hI.length] at hel
  have HL : Hid ((rs.getD x []).length = rl) := hI.length
  have HF : Hid (S.frames = (x, e) :: fs) := hF
  have HV : Hid (∀ z, z < k + 1 → S.index z ≠ 0) := hV
  have HRc : Hid (Tj.Rc n (adj tz kz rs kinds) S) := hRc
  have HINV : Hid (Tj.Inv n (adj tz kz rs kinds) S) := hinv
  have HNUM : Hid (Tj.Num n S) := hnum
  have HXON : Hid (S.on x = true) := hxon
  have hee : e = rl := by have := HL.out; omega
  obtain rfl := hee
  have HP0 : Hid (Tj.pot n (adj tz kz rs kinds) (Tj.popf S x fs) < Tj.pot n (adj tz kz rs kinds) S) := Tj.pot_pop x e fs HF.out
  have HR0 : Hid (Tj.Rc n (adj tz kz rs kinds) (Tj.popf S x fs)) := HRc.out.step (.inr ⟨x, e, fs, HF.out, .inr ⟨by simpa [adj] using hlt, rfl⟩⟩)
  have HFS : Hid (fs = []) := hfs
  have HLE : Hid (S.low x ≠ S.index x) := hlx
  clear hfs hlx
  have HLX : Tj.lowUp S x fs x = S.low x := Tj.lowUp_other S x fs x (Tj.top_not HINV.out HF.out)
  clear hI hDr hrow hF hinv hnum hxon hV hRc hRep hok hr hD htw
  conv => arg 2; whnf
  unfold Fr
  go_upto_region 19 with fail
  go_cut [88] from 64 to 245 (fun s88 wc => s88 = .bool false ∧ Rep w wc n S.comp S.index S.low S.on S.stack vs ((x, e) :: fs) (.slice (some ⟨g, 0, none⟩) (fs.length + 1) cap) ∧ Below wr.heap.size wr wc)
  case first =>
    go_quiet (fail)
    go_wp2
    go_meet
    case rel => exact ⟨rfl, HRep2.out.drewN _, below_drewN (Below.refl _ _) _⟩
  case rest =>
  obtain ⟨rfl, hR, -⟩ := hcut
  clear hcx hce hfz hcr hd0 hd1
  have hlx := HLE.out
  have hpos : decide ((0 : Int) < (fs.length : Int)) = false := by rw [HFS.out]; rfl
  have hpos2 : decide (0 < fs.length) = false := by rw [HFS.out]; rfl
  have hpos3 : ¬ (0 < fs.length) := by rw [HFS.out]; simp
  obtain ⟨tcx, tce, tfz, tgb, tgl⟩ := hR.topAt
  have HUP : Tj.lowUp S x fs = S.low := by rw [HFS.out]; rfl
  have HR1 : Hid (Rep w wc n S.comp S.index (Tj.lowUp S x fs) S.on S.stack vs fs (.slice (some ⟨g, 0, none⟩) fs.length cap))   := by rw [HUP]; exact hR.popFrame
  have hcx := HR1.out.low.cell (i := x) hxn
  rw [HLX] at hcx
  have hci := HR1.out.index.cell (i := x) hxn
  clear HUP
  go_upto_region 36 with fail
  go_cut [222] from 64 to 245 (fun s222 wd => s222 = .bool false ∧ Rep w wd n S.comp S.index (Tj.lowUp S x fs) S.on S.stack vs fs (.slice (some ⟨g, 0, none⟩) fs.length cap))
  case first =>
    go_quiet (fail)
    go_wp2
    go_meet
    case rel => exact ⟨by first | rfl | (simp [hlx]; done) | (simp; omega), HR1.out.drewN _⟩
  case rest =>
  obtain ⟨rfl, hR2⟩ := hcut
  clear HR1 hcx hci tcx tce tfz tgl hpos hpos2 hpos3
  have hS : Tj.popf S x fs = { S with frames := fs, low := Tj.lowUp S x fs } := by unfold Tj.popf; rw [if_neg hlx]
  rw [hS] at HP0 HR0
  clear hS
  go_wp2
  exact ⟨_, HP0.out, { S with frames := fs, low := Tj.lowUp S x fs }, _, _, rfl, HR0.out, rfl, HV.out, hR2⟩
end Go.Proofs.Qxb6602594a

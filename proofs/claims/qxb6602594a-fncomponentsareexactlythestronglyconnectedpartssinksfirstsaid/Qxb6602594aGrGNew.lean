import Derived.Test.Qxb6602594aGrH
import Derived.Deep.CutRange
import Derived.BigRegion
import Derived.Deep.RegionHeld3
import Derived.BigQuiet
namespace Go.Proofs.Qxb6602594a
open Go.RowKit
set_option linter.unusedSimpArgs false
set_option linter.unusedVariables false


set_option maxRecDepth 1000000 in
set_option maxHeartbeats 4000000 in
theorem inner_edge_new (n eb tl oc k db x e : Nat) (tz kz : List Int) (rs : List (List Int)) (oa : Option Addr) (kinds : Int) (fs : List (Nat × Nat)) (w wr : World) (c u : Nat → Value) (S : Tj.St) (vs vf : Value) (Q0 : Exit → Act → World → Prop)
    (ht : tl ≤ 1048576) (hn : n ≤ 1048576) (hr : ∀ i, i < n → (rs.getD i []).length ≤ 1048576) (hD : Dg w db eb tl tz kz oa n oc rs) (hok : RowsAll n rs (EdOk tl tz kz n kinds)) (htw : I32s tz)
    (hF : S.frames = (x, e) :: fs) (hRc : Tj.Rc n (adj tz kz rs kinds) S) (hV : ∀ z, z < k + 1 → S.index z ≠ 0) (hRep : Rep w wr n S.comp S.index S.low S.on S.stack vs S.frames vf)
    (hlt : e < (rs.getD x []).length) (y' : Nat) (hx : (adj tz kz rs kinds x)[e]?.getD none = some y') (hiy' : S.index y' = 0) :
    Code.wp Try.prog (innerOf Try.f45) (Exit.then (fun a' w' => ∃ m', m' < Tj.pot n (adj tz kz rs kinds) S ∧ WI n (adj tz kz rs kinds) k db kinds w c m' a' w') Q0) (Fr db n w.heap.size kinds c u vs S.next S.comps vf) wr := by
  have HG : Hid (∀ x y, x < n → Tj.Ed (adj tz kz rs kinds) x y → y < n) := adj_lt hok
  have HRep2 : Hid (Rep w wr n S.comp S.index S.low S.on S.stack vs ((x, e) :: fs) vf) := by have := hRep; rw [hF] at this; exact this
  have hinv := hRc.inv HG.out
  have hnum := hRc.num HG.out
  have hxon := Tj.top_on hinv hF
  have hxn : x < n := hinv.vislt x (hinv.onvis x hxon)
  have hel : e ≤ (rs.getD x []).length := by have := hinv.fle (x, e) (by rw [hF]; simp); simpa [adj] using this
  have hfl : fs.length + 1 ≤ n := by have h1 := hnum.frames; have h2 := hnum.nextle; rw [hF] at h1; simp at h1; omega
  obtain ⟨g, cap, hvf, hgb, hcx, hce, hfz, hcap⟩ := HRep2.out.topFrame
  subst hvf
  have hDr := hD.later hRep.below
  obtain ⟨ob, ooff, hoa, hrow⟩ := hDr.rows.at_ (by omega)
  subst hoa
  obtain ⟨ra, rl, rc, hcr, hI⟩ := hrow x hxn
  have hd0 := hDr.d0
  have hd1 := hDr.d1
  have hll : rl ≤ 1048576 := by have := hr x hxn; rw [hI.length] at this; exact this
  rw [hI.length] at hel
  have HL : Hid ((rs.getD x []).length = rl) := hI.length
  have HF : Hid (S.frames = (x, e) :: fs) := hF
  have HV : Hid (∀ z, z < k + 1 → S.index z ≠ 0) := hV
  have HRc : Hid (Tj.Rc n (adj tz kz rs kinds) S) := hRc
  have HINV : Hid (Tj.Inv n (adj tz kz rs kinds) S) := hinv
  have HNUM : Hid (Tj.Num n S) := hnum
  have HXON : Hid (S.on x = true) := hxon
  have hee : e < rl := by rw [← HL.out]; exact hlt
  obtain ⟨rb, roff, hra, hrcell⟩ := hI.at_ (by omega)
  subst hra
  have hE := hok x hxn e hlt
  obtain ⟨ee, heq⟩ := Int.eq_ofNat_of_zero_le hE.1
  have hcell := hrcell e hee
  rw [heq] at hcell hE
  have heet : ee < tl := by have := hE.2.1; omega
  obtain ⟨q0, q1, q2, q3, q4⟩ := hDr.ed ee heet
  have hs := hRep.size
  have hg1 : g ≠ wr.heap.size := by have := World.block_lt_of_cell? wr _ hcx; simp at this; omega
  have HX : Hid ((adj tz kz rs kinds x)[e]?.getD none = some y') := hx
  clear hx
  have HIY : Hid (S.index y' = 0) := hiy'
  clear hiy'
  have HEQ : Hid ((rs.getD x []).getD e 0 = (ee : Int)) := heq
  have HAT := adj_at (tz := tz) (kz := kz) (kinds := kinds) hlt heq
  have HE : cts kinds (kz.getD ee 0) = true → 0 ≤ tz.getD ee 0 ∧ tz.getD ee 0 < n := by have := hE.2.2; simpa using this
  generalize htz : tz.getD ee 0 = t at q1 HAT HE
  generalize hkz : kz.getD ee 0 = kk at q2 HAT HE
  clear hI hDr hrow hF hinv hnum hxon hV hRc hRep hok hr hD htw hrcell hE heq htz hkz
  conv => arg 2; whnf
  unfold Fr
  go_upto_region 19 with fail
  go_cut [88] from 64 to 245 (fun s88 wc => s88 = .bool true ∧ Rep w wc n S.comp S.index S.low S.on S.stack vs ((x, e) :: fs) (.slice (some ⟨g, 0, none⟩) (fs.length + 1) cap) ∧ Below wr.heap.size wr wc)
  case first =>
    go_quiet (fail)
    go_wp2
    go_meet
    case rel => exact ⟨rfl, HRep2.out.drewN _, below_drewN (Below.refl _ _) _⟩
  case rest =>
  obtain ⟨rfl, hR, hB⟩ := hcut
  have kp : ∀ {a v}, wr.cell? a = some v → wc.cell? a = some v := fun h => (hB.cell (World.block_lt_of_cell? wr _ h)).trans h
  replace hcx := kp hcx
  replace hce := kp hce
  replace hcr := kp hcr
  replace hd0 := kp hd0
  replace hd1 := kp hd1
  replace hcell := kp hcell
  replace q0 := kp q0
  replace q1 := kp q1
  replace q2 := kp q2
  replace q3 := kp q3
  replace q4 := kp q4
  replace hfz := hR.topFrozen
  have l1 := World.block_lt_of_cell? wc _ hcx
  have l2 := World.block_lt_of_cell? wc _ hcr
  have l3 := World.block_lt_of_cell? wc _ hd0
  have l4 := World.block_lt_of_cell? wc _ hcell
  have l5 := World.block_lt_of_cell? wc _ q0
  have hps := hR.size
  have HR3 : Hid (Rep w wc n S.comp S.index S.low S.on S.stack vs ((x, e) :: fs) (.slice (some ⟨g, 0, none⟩) (fs.length + 1) cap)) := hR
  simp only at l1 l2 l3 l4 l5
  clear kp hB hR
  go_upto_region 20 with fail
  go_cut [16] from 64 to 245 (fun s16 wd => ∃ p, s16 = .pointer (some ⟨p, 0, none⟩) ∧ Rep w wd n S.comp S.index S.low S.on S.stack vs ((x, e) :: fs) (.slice (some ⟨g, 0, none⟩) (fs.length + 1) cap) ∧ wd.rowIs p 99 5 (edv t kk) ∧ w.heap.size + 4 ≤ p)
  case first =>
    have n1 := World.new_ne wc _ hcx
    have n2 := World.new_ne wc _ hcr
    have n3 := World.new_ne wc _ hd0
    have n4 := World.new_ne wc _ hcell
    have n5 := World.new_ne wc _ q0
    go_region_held3 (fun w' => w'.cell? ⟨g, fs.length * 2, none⟩ = some (iv x) ∧ w'.cell? ⟨g, fs.length * 2 + 1, none⟩ = some (iv e) ∧ w'.cell? ⟨db, 0, none⟩ = some (.slice (some ⟨eb, 0, none⟩) tl tl) ∧ w'.cell? ⟨db, 1, none⟩ = some (.slice (some ⟨ob, ooff, none⟩) n oc) ∧ w'.cell? ⟨ob, ooff + x, none⟩ = some (.slice (some ⟨rb, roff, none⟩) rl rc) ∧ w'.cell? ⟨rb, roff + e, none⟩ = some (.int .i32 ee) ∧ w'.cell? ⟨eb, ee * 5, none⟩ = some (.int .i32 0) ∧ w'.cell? ⟨eb, ee * 5 + 1, none⟩ = some (.int .i32 t) ∧ w'.cell? ⟨eb, ee * 5 + 2, none⟩ = some (.int .i64 kk) ∧ w'.cell? ⟨eb, ee * 5 + 3, none⟩ = some (.int .i32 0) ∧ w'.cell? ⟨eb, ee * 5 + 4, none⟩ = some (.bool false)) (go_keep) (fail)
    all_goals
      go_wp2
      go_meet
      case rel => exact ⟨_, rfl, (HR3.out.alloc _).drew, ed_new wc t kk, hps⟩
  case rest =>
  obtain ⟨p, rfl, hR, hP, hp4⟩ := hcut
  clear hcx hce hcr hd0 hd1 hcell q0 q1 q2 q3 q4 hfz l1 l2 l3 l4 l5 hps HR3 hg1
  obtain ⟨tcx, tce, tfz, tgb, tgl⟩ := hR.topAt
  have hpg : p ≠ g := by have := (hR.edApart hP).2; intro e; exact this (by rw [e]; rfl)
  have hR2 : Rep w (wc.setCell ⟨g, fs.length * 2 + 1, none⟩ (.int .i32 ((e : Int) + 1))) n S.comp S.index S.low S.on S.stack vs ((x, e + 1) :: fs) (.slice (some ⟨g, 0, none⟩) (fs.length + 1) cap) := hR.setEdge (e + 1)
  have hP2 : (wc.setCell ⟨g, fs.length * 2 + 1, none⟩ (.int .i32 ((e : Int) + 1))).rowIs p 99 5 (edv t kk) := hP.setOther (by simpa using hpg) _
  have HR2 : Hid (Rep w (wc.setCell ⟨g, fs.length * 2 + 1, none⟩ (.int .i32 ((e : Int) + 1))) n S.comp S.index S.low S.on S.stack vs ((x, e + 1) :: fs) (.slice (some ⟨g, 0, none⟩) (fs.length + 1) cap)) := hR2
  have HP2 : Hid ((wc.setCell ⟨g, fs.length * 2 + 1, none⟩ (.int .i32 ((e : Int) + 1))).rowIs p 99 5 (edv t kk)) := hP2
  clear hR hP hR2 hP2
  go_upto_region 22 with fail
  generalize wc.setCell ⟨g, fs.length * 2 + 1, none⟩ (.int .i32 ((e : Int) + 1)) = we at HR2 HP2 ⊢
  have ek : we.cell? ⟨p, 2, none⟩ = some (.int .i64 kk) := HP2.out.cell (i := 2) (by omega)
  have et : we.cell? ⟨p, 1, none⟩ = some (.int .i32 t) := HP2.out.cell (i := 1) (by omega)
  clear tcx tce tfz tgl hpg
  have hct : cts kinds kk = true := by
    have h1 := HX.out
    rcases Bool.eq_false_or_eq_true (cts kinds kk) with h | h
    · exact h
    · rw [h, h1] at HAT; simp at HAT
  have hty : t.toNat = y' := by
    have h1 := HX.out
    rw [hct, h1] at HAT
    simpa using HAT.symm
  have hiy : S.index t.toNat = 0 := by rw [hty]; exact HIY.out
  clear HX hty HIY
  have hno : (bits BinOp.and IntKind.i64 kk kinds == 0) = false := by simpa [cts] using hct
  obtain ⟨ht0, ht1⟩ := HE hct
  obtain ⟨y, rfl⟩ := Int.eq_ofNat_of_zero_le ht0
  simp only [Int.toNat_natCast] at hiy
  have hyn : y < n := by omega
  rw [hct] at HAT
  simp only [Int.toNat_natCast, if_true] at HAT
  have ci := HR2.out.index.cell (i := y) hyn
  have hS : Tj.edge (adj tz kz rs kinds) S x e fs = Tj.push { S with frames := (x, e + 1) :: fs } y := by
    unfold Tj.edge
    rw [HAT]
    simp [hiy]
  have hltA : e < (adj tz kz rs kinds x).length := by simpa [adj] using hlt
  have HPOT := Tj.pot_edge HG.out x e fs hxn HF.out hltA
  have HRC2 := HRc.out.step (.inr ⟨x, e, fs, HF.out, .inl ⟨hltA, rfl⟩⟩)
  rw [hS] at HPOT HRC2
  have HP0 : Hid (Tj.pot n (adj tz kz rs kinds) (Tj.push { S with frames := (x, e + 1) :: fs } y) < Tj.pot n (adj tz kz rs kinds) S) := HPOT
  have HR0 : Hid (Tj.Rc n (adj tz kz rs kinds) (Tj.push { S with frames := (x, e + 1) :: fs } y)) := HRC2
  have hb1 : (((S.index y : Nat) : Int) == 0) = true := by simpa using hiy
  have hnx : S.next + 1 ≤ 1048576 := by have := HNUM.out.nextlt y hyn hiy; omega
  have hst : S.stack.length + 1 ≤ 1048576 := by have := HNUM.out.comps; omega
  have HV2 : Hid (∀ z, z < k + 1 → Tj.upd S.index y (S.next + 1) z ≠ 0) := by
    intro z hz
    unfold Tj.upd
    split
    · omega
    · exact HV.out z hz
  clear HE hiy HPOT HRC2 hS HAT
  have cl := HR2.out.low.cell (i := y) hyn
  have cf := HR2.out.low.frozen y
  have cif := HR2.out.index.frozen y
  have p1 : p ≠ w.heap.size := by omega
  have p2 : p ≠ w.heap.size + 1 := by omega
  have p3 : p ≠ w.heap.size + 1 + 1 := by omega
  have p4 : p ≠ w.heap.size + 1 + 1 + 1 := by omega
  have n12 : w.heap.size + 1 ≠ w.heap.size + 1 + 1 := by omega
  obtain ⟨i0, hi, hz0, hz1, hz2⟩ := info_parts Try.info21
  obtain ⟨i1, hi1, hy0, hy1, hy2⟩ := info_parts Try.info103
  go_upto_region 25 with fail
  go_cut [11] from 64 to 245 (fun s11 wc => s11 = .int .i32 (S.next + 1) ∧ Rep w wc n S.comp (Tj.upd S.index y (S.next + 1)) (Tj.upd S.low y (S.next + 1)) S.on S.stack vs ((x, e + 1) :: fs) (.slice (some ⟨g, 0, none⟩) (fs.length + 1) cap) ∧ wc.rowIs p 99 5 (edv y kk))
  case first =>
    go_region_held3 (fun w' => w'.cell? ⟨p, 1, none⟩ = some (.int .i32 y)) (first | (go_keep; done) | (repeat (first | assumption | refine keep_drew ?_ | refine keep_set ?_ (by simp <;> omega)))) (fail)
    all_goals
      go_wp2_with fail
      go_meet
      case rel => exact ⟨rfl, ((HR2.out.setIndex y (S.next + 1)).setLow y (S.next + 1)).drew, ((HP2.out.setOther (by simp <;> omega) _).setOther (by simp <;> omega) _).drew⟩
  case rest =>
  obtain ⟨rfl, hR3, hP3⟩ := hcut
  clear HR2 HP2 ci cl cf cif ek et hb1 hno
  have et := hP3.cell (i := 1) (by omega)
  simp only [edv, if_true] at et
  have HR3 : Hid (Rep w wc n S.comp (Tj.upd S.index y (S.next + 1)) (Tj.upd S.low y (S.next + 1)) S.on S.stack vs ((x, e + 1) :: fs) (.slice (some ⟨g, 0, none⟩) (fs.length + 1) cap)) := hR3
  have HP3 : Hid (wc.rowIs p 99 5 (edv y kk)) := hP3
  clear hR3 hP3
  go_upto_region 26 with fail
  go_cut [10] from 64 to 245 (fun s10 wd => Rep w wd n S.comp (Tj.upd S.index y (S.next + 1)) (Tj.upd S.low y (S.next + 1)) S.on (y :: S.stack) s10 ((x, e + 1) :: fs) (.slice (some ⟨g, 0, none⟩) (fs.length + 1) cap) ∧ wd.rowIs p 99 5 (edv y kk))
  case first =>
    go_wp2_with (at_builtin; (refine wpList_append_own _ rfl _ _ 48 rfl (w.heap.size + 4) 21 i0 (.int .i32 0) 1 4 Try.underlying48 hi hz0 hz1 hz2 rfl (by decide) _ _ _ rfl (HR3.out.stk.alloc _) ⟨_, 0, none⟩ 1 1 [.int .i32 y] rfl rfl (cell_one_new' _ _ _ _ (by simp)) (fun x hx => by simp at hx; subst hx; rfl) (by unfold maxLen; omega) (by omega) (by have := HR3.out.size; simp at this ⊢; omega) ?_); intro v1 w3 hown1 hgrow3 _)
    go_meet
    case rel =>
      refine ⟨(HR3.out.alloc _).pushStack hown1 hgrow3, (HP3.out.alloc _).of_block (hgrow3.block p ?_ ?_)⟩
      · have := HP3.out.lt; simp; omega
      · exact (HR3.out.edApart HP3.out).1
  case rest =>
  obtain ⟨hR4, hP4⟩ := hcut
  clear HR3 HP3 et
  have et := hP4.cell (i := 1) (by omega)
  simp only [edv, if_true] at et
  have co := hR4.on.cell (i := y) hyn
  have cof := hR4.on.frozen y
  have HR4 : Hid (Rep w (wc.setCell ⟨w.heap.size + 1 + 1 + 1, y, none⟩ (.bool true)) n S.comp (Tj.upd S.index y (S.next + 1)) (Tj.upd S.low y (S.next + 1)) (Tj.upd S.on y true) (y :: S.stack) u10 ((x, e + 1) :: fs) (.slice (some ⟨g, 0, none⟩) (fs.length + 1) cap)) := hR4.setOn y true
  have HP4 : Hid ((wc.setCell ⟨w.heap.size + 1 + 1 + 1, y, none⟩ (.bool true)).rowIs p 99 5 (edv y kk)) := hP4.setOther (by simp <;> omega) _
  clear hR4 hP4
  go_upto_region 28 with fail
  generalize wc.setCell ⟨w.heap.size + 1 + 1 + 1, y, none⟩ (.bool true) = wf at HR4 HP4 ⊢
  clear et co cof
  have et := HP4.out.cell (i := 1) (by omega)
  simp only [edv, if_true] at et
  go_wp2_with (at_builtin; (refine wpList_append_own _ rfl _ _ 104 rfl (w.heap.size + 4) 103 i1 (.agg #[.int .i32 0, .int .i32 0]) 2 8 Try.underlying104 hi1 hy0 hy1 hy2 rfl (by decide) _ _ _ rfl (HR4.out.frm.alloc _) ⟨_, 0, none⟩ 1 1 [.int .i32 y, .int .i32 0] rfl rfl (cell_two_new _ _ _ _ _ (by simp)) (fun x hx => by simp at hx; rcases hx with rfl | rfl <;> rfl) (by unfold maxLen; simp; omega) (by simp; omega) (by have := HR4.out.size; simp at this ⊢; omega) ?_); intro v1 w3 hown1 hgrow3 _)
  refine ⟨_, HP0.out, Tj.push { S with frames := (x, e + 1) :: fs } y, _, _, rfl, HR0.out, rfl, HV2.out, (HR4.out.alloc _).pushFrame hown1 hgrow3⟩
end Go.Proofs.Qxb6602594a

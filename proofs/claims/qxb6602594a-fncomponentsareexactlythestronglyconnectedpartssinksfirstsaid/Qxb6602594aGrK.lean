import Derived.Test.Qxb6602594aGrJ
import Derived.Deep.CutRange
import Derived.BigRegion
import Derived.Deep.RegionHeld3
import Derived.BigQuiet
namespace Go.Proofs.Qxb6602594a
open Go.RowKit
set_option linter.unusedSimpArgs false
set_option linter.unusedVariables false


def edZero : Array Value := #[.int .i32 0, .int .i32 0, .int .i64 0, .int .i32 0, .bool false]
def edMade (n : Nat) : Array Value := madeCells edZero (n * 5)
theorem Try.info99 : (Try.prog.info? 99).map (fun i => (i.zero, i.size, i.bytes)) = some (some (.agg edZero), 5, 24) := by kernel_rfl

theorem make_eds (n : Nat) (hn : n ≤ 1048576) (w : World) :
    (Instr.makeSlice 95 (.int .i64 (n : Int)) (.int .i64 (n : Int))).run Try.prog w = .ok (.slice (some ⟨w.heap.size, 0, none⟩) n n) (w.alloc (.cells (edMade n) 99)) := by
  obtain ⟨i, hi, hz, hs, hb⟩ := info_parts Try.info99
  have hr := run_make (P := Try.prog) w 95 99 i _ Try.underlying95 hi hz .i64 .i64 n n (by omega) (Int.le_refl _) (by rw [hb]; omega) (by omega)
  simp only [Int.toNat_natCast, hs] at hr
  exact hr

/-- The cells of the edges, the first k of them laid. -/
def edF (tz kz : List Int) (k j : Nat) : Value := edv (if j / 5 < k then tz.getD (j / 5) 0 else 0) (if j / 5 < k then kz.getD (j / 5) 0 else 0) (j % 5)

theorem row_eds (w : World) (n : Nat) (tz kz : List Int) : (w.alloc (.cells (edMade n) 99)).rowIs w.heap.size 99 (n * 5) (edF tz kz 0) := by
  refine ⟨_, Go.Deep.blk_alloc_new _ _, size_madeCells _ _, fun i hi => ?_⟩
  have h5 : i % 5 < 5 := Nat.mod_lt _ (by omega)
  simp only [edMade, madeCells, Array.getElem?_map, Array.getElem?_range, hi, if_true, Option.map_some]
  show some (edZero[i % 5]!) = _
  congr 1
  simp only [edF, Nat.not_lt_zero, if_false]
  generalize i % 5 = j at h5
  match j, h5 with
  | 0, _ => rfl
  | 1, _ => rfl
  | 2, _ => rfl
  | 3, _ => rfl
  | 4, _ => rfl

theorem edF_step (tz kz : List Int) (k j : Nat) :
    (if j = k * 5 + 4 then Value.bool false else if j = k * 5 + 3 then .int .i32 0 else if j = k * 5 + 2 then .int .i64 (kz.getD k 0) else if j = k * 5 + 1 then .int .i32 (tz.getD k 0) else if j = k * 5 then .int .i32 0 else edF tz kz k j) = edF tz kz (k + 1) j := by
  have hj := Nat.div_add_mod j 5
  have hr : j % 5 < 5 := Nat.mod_lt _ (by omega)
  by_cases h : j / 5 = k
  · have hk : k < k + 1 := by omega
    have hc : j % 5 = 0 ∨ j % 5 = 1 ∨ j % 5 = 2 ∨ j % 5 = 3 ∨ j % 5 = 4 := by omega
    rcases hc with e | e | e | e | e
    · rw [if_neg (by omega), if_neg (by omega), if_neg (by omega), if_neg (by omega), if_pos (by omega)]
      simp [edF, edv, e]
    · rw [if_neg (by omega), if_neg (by omega), if_neg (by omega), if_pos (by omega)]
      simp [edF, edv, e, h]
    · rw [if_neg (by omega), if_neg (by omega), if_pos (by omega)]
      simp [edF, edv, e, h]
    · rw [if_neg (by omega), if_pos (by omega)]
      simp [edF, edv, e]
    · rw [if_pos (by omega)]
      simp [edF, edv, e]
  · rw [if_neg (by omega), if_neg (by omega), if_neg (by omega), if_neg (by omega), if_neg (by omega)]
    unfold edF
    by_cases h2 : j / 5 < k
    · rw [if_pos h2, if_pos h2, if_pos (by omega), if_pos (by omega)]
    · rw [if_neg h2, if_neg h2, if_neg (by omega), if_neg (by omega)]

theorem edF_at (tz kz : List Int) (tl e i : Nat) (he : e < tl) (hi : i < 5) : edF tz kz tl (e * 5 + i) = edv (tz.getD e 0) (kz.getD e 0) i := by
  have h1 : (e * 5 + i) / 5 = e := by omega
  have h2 : (e * 5 + i) % 5 = i := by omega
  unfold edF
  rw [h1, h2, if_pos he, if_pos he]

def dgF (eb tl : Nat) (oa : Option Addr) (n oc : Nat) : Nat → Value
  | 0 => .slice (some ⟨eb, 0, none⟩) tl tl
  | 1 => .slice oa n oc
  | 2 => .int .i32 0
  | _ => .slice none 0 0

theorem row_dg (w : World) (eb tl : Nat) (oa : Option Addr) (n oc : Nat) : (w.alloc (.cells #[.slice (some ⟨eb, 0, none⟩) tl tl, .slice oa n oc, .int .i32 0, .slice none 0 0, .slice none 0 0] 97)).rowIs w.heap.size 97 5 (dgF eb tl oa n oc) := by
  refine World.rowIs_alloc w _ 97 _ ?_
  intro i hi
  simp at hi
  match i, hi with
  | 0, _ => rfl
  | 1, _ => rfl
  | 2, _ => rfl
  | 3, _ => rfl
  | 4, _ => rfl

theorem dg_of {wr : World} {eb tl : Nat} {tz kz : List Int} {oa : Option Addr} {n oc : Nat} {rs : List (List Int)} (db : Nat) (h1 : wr.rowIs eb 99 (tl * 5) (edF tz kz tl)) (h2 : wr.rowIs db 97 5 (dgF eb tl oa n oc)) (h3 : IsRows wr oa n oc rs) : Dg wr db eb tl tz kz oa n oc rs := by
  refine ⟨h2.cell (i := 0) (by omega), h2.cell (i := 1) (by omega), fun e he => ?_, h3⟩
  have c : ∀ i, i < 5 → wr.cell? ⟨eb, e * 5 + i, none⟩ = some (edv (tz.getD e 0) (kz.getD e 0) i) := fun i hi => by
    rw [h1.cell (i := e * 5 + i) (by omega), edF_at tz kz tl e i he hi]
  exact ⟨c 0 (by omega), c 1 (by omega), c 2 (by omega), c 3 (by omega), c 4 (by omega)⟩

theorem five_row {w : World} {b : Nat} {n k : Nat} {tz kz : List Int} (h : w.rowIs b 99 n (edF tz kz k)) :
    (((((w.setCell ⟨b, k * 5, none⟩ (.int .i32 0)).setCell ⟨b, k * 5 + 1, none⟩ (.int .i32 (tz.getD k 0))).setCell ⟨b, k * 5 + 2, none⟩ (.int .i64 (kz.getD k 0))).setCell ⟨b, k * 5 + 3, none⟩ (.int .i32 0)).setCell ⟨b, k * 5 + 4, none⟩ (.bool false)).rowIs b 99 n (edF tz kz (k + 1)) :=
  (((((h.set (k * 5) _).set (k * 5 + 1) _).set (k * 5 + 2) _).set (k * 5 + 3) _).set (k * 5 + 4) _).congr (fun j _ => edF_step tz kz k j)

set_option maxRecDepth 100000 in
set_option maxHeartbeats 4000000 in
theorem zzcomp_calls (ta ka oa : Option Addr) (tl tc kc n oc : Nat) (tz kz : List Int) (rs : List (List Int)) (kinds : Int) (w : World)
    (ht : tl ≤ 1048576) (hn : n ≤ 1048576) (hr : ∀ i, i < n → (rs.getD i []).length ≤ 1048576) (hT : IsI .i32 w ta tl tc tz) (hK : IsI .i64 w ka tl kc kz) (hO : IsRows w oa n oc rs) (hok : RowsAll n rs (EdOk tl tz kz n kinds)) (htw : I32s tz) :
    Calls Try.prog 37 #[.slice ta tl tc, .slice ka tl kc, .slice oa n oc, .int .i64 kinds] w fun e w' => ∃ b S, e = .returned (.slice (some ⟨b, 0, none⟩) n n) ∧ Below w.heap.size w w' ∧ Tj.Rc n (adj tz kz rs kinds) S ∧ S.frames = [] ∧ (∀ v, v < n → S.index v ≠ 0) ∧ w'.rowIs b 21 n (fun i => iv (S.comp i)) := by
  have hmk := make_eds tl ht
  have HT : Hid (IsI .i32 w ta tl tc tz) := hT
  have HK : Hid (IsI .i64 w ka tl kc kz) := hK
  have HO : Hid (IsRows w oa n oc rs) := hO
  have HR : Hid (∀ i, i < n → (rs.getD i []).length ≤ 1048576) := hr
  have HOK : Hid (RowsAll n rs (EdOk tl tz kz n kinds)) := hok
  have HTW : Hid (I32s tz) := htw
  clear hT hK hO hr hok htw
  go_enter Try.func37, Try.ntmps37
  go_wp2_with fail
  go_loopg [19] tl (fun gk i wr => ∃ k : Nat, k ≤ tl ∧ gk + k = tl ∧ i = .int .i64 k ∧ Below w.heap.size w wr ∧ wr.rowIs w.heap.size 99 (tl * 5) (edF tz kz k) ∧ wr.rowIs (w.heap.size + 1) 97 5 (dgF w.heap.size tl oa n oc))
  case atStart =>
    refine ⟨0, Nat.zero_le _, rfl, rfl, ((Below.refl _ _).alloc (Nat.le_refl _) _).alloc (by simp) _, (row_eds w tl tz kz).alloc _, ?_⟩
    have := row_dg (w.alloc (.cells (edMade tl) 99)) w.heap.size tl oa n oc
    simp only [World.size_alloc] at this
    exact this
  case round =>
    obtain ⟨k, hk, hgk, rfl, hb, hrow, hdg⟩ := hrel
    by_cases hlt : k < tl
    · obtain ⟨b, off, hx, hc⟩ := HT.out.at_ (by omega)
      subst hx
      obtain ⟨b2, off2, hx2, hc2⟩ := HK.out.at_ (by omega)
      subst hx2
      have hck := hc k hlt
      have hck2 := hc2 k hlt
      have l1 := World.block_lt_of_cell? w _ hck
      have l2 := World.block_lt_of_cell? w _ hck2
      rw [← hb.cell l1] at hck
      rw [← hb.cell l2] at hck2
      simp only at l1 l2
      have hd0 : wr.cell? ⟨w.heap.size + 1, 0, none⟩ = some (.slice (some ⟨w.heap.size, 0, none⟩) tl tl) := hdg.cell (i := 0) (by omega)
      have e0 := hrow.cell (i := k * 5) (by omega)
      have e1 := hrow.cell (i := k * 5 + 1) (by omega)
      have e2 := hrow.cell (i := k * 5 + 2) (by omega)
      have e3 := hrow.cell (i := k * 5 + 3) (by omega)
      have e4 := hrow.cell (i := k * 5 + 4) (by omega)
      have ef := hrow.frozen
      have n1 : b ≠ w.heap.size := by omega
      have n2 : b2 ≠ w.heap.size := by omega
      have n3 : w.heap.size + 1 ≠ w.heap.size := by omega
      have HB : Hid (Below w.heap.size w wr) := hb
      have HROW : Hid (wr.rowIs w.heap.size 99 (tl * 5) (edF tz kz k)) := hrow
      have HDG : Hid (wr.rowIs (w.heap.size + 1) 97 5 (dgF w.heap.size tl oa n oc)) := hdg
      clear hc hc2 hb hrow hdg
      generalize htt : tz.getD k 0 = t at hck
      generalize hkk : kz.getD k 0 = kk at hck2
      go_upto_region 5 with fail
      go_region_held3 (fun w' => w'.cell? ⟨w.heap.size + 1, 0, none⟩ = some (.slice (some ⟨w.heap.size, 0, none⟩) tl tl) ∧ w'.cell? ⟨b, off + k, none⟩ = some (.int .i32 t) ∧ w'.cell? ⟨b2, off2 + k, none⟩ = some (.int .i64 kk)) (refine ⟨?_, ?_, ?_⟩ <;> (repeat (first | with_reducible assumption | (with_reducible refine keep_drew ?_) | (with_reducible refine keep_set ?_ (by simp <;> omega))))) (fail)
      all_goals go_wp2_with fail
      go_roundg (tl - (k + 1))
      case rel =>
        subst htt hkk
        refine ⟨k + 1, by omega, by omega, by go_num, ?_, ?_, ?_⟩
        · exact (((((HB.out.setCell (Nat.le_refl _) _).setCell (Nat.le_refl _) _).setCell (Nat.le_refl _) _).setCell (Nat.le_refl _) _).setCell (Nat.le_refl _) _).drew
        · exact (five_row HROW.out).drew
        · exact (((((HDG.out.setOther (by simp) _).setOther (by simp) _).setOther (by simp) _).setOther (by simp) _).setOther (by simp) _).drew
      case measure => omega
    · have hkl : k = tl := by omega
      subst hkl
      go_wp2_with fail
      refine (components_calls (w.heap.size + 1) w.heap.size k tz kz oa n oc rs kinds _ ht hn HR.out (dg_of _ hrow hdg (HO.out.later hb)) HOK.out HTW.out).mono ?_
      rintro e w1 ⟨rb, S, rfl, hb1, h1, h2, h3, h4⟩
      go_wp2
      go_ret
      exact ⟨rb, S, rfl, hb.trans (hb1.mono hb.size), h1, h2, h3, h4⟩
end Go.Proofs.Qxb6602594a

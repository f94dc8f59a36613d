import Derived.Test.Qxb6602594aResA
import Derived.Deep.Cut
namespace Go.Proofs.Qxb6602594a
open Go.RowKit
set_option linter.unusedSimpArgs false
set_option linter.unusedVariables false

/-- A slice of strings of whatever make: its elements are ss. -/
structure IsS (w : World) (a : Option Addr) (len cap : Nat) (ss : List ByteArray) : Prop where
  length : ss.length = len
  nil : a = none → len = 0 ∧ cap = 0
  at_ : 0 < len → ∃ b off, a = some ⟨b, off, none⟩ ∧ ∀ i, i < len → w.cell? ⟨b, off + i, none⟩ = some (.string (ss.getD i ByteArray.empty))

theorem IsS.later {w w' : World} {a : Option Addr} {len cap : Nat} {ss : List ByteArray} (h : IsS w a len cap ss) (hb : Below w.heap.size w w') : IsS w' a len cap ss := by
  refine ⟨h.length, h.nil, fun hp => ?_⟩
  obtain ⟨b, off, ha, hc⟩ := h.at_ hp
  refine ⟨b, off, ha, fun i hi => ?_⟩
  rw [hb.cell (World.block_lt_of_cell? w _ (hc i hi))]
  exact hc i hi

def txnZero : Array Value := #[.int .i32 0, .int .u64 0, .int .i64 0, .int .i64 0, .int .u8 0, .slice none 0 0, .slice none 0 0, .bool false, .bool false, .int .i64 0]
def anoZero : Array Value := #[.string ByteArray.empty, .string ByteArray.empty]
def txnMade (n : Nat) : Array Value := madeCells txnZero (n * 10)
def anoMade (n : Nat) : Array Value := madeCells anoZero (n * 2)

theorem Try.info81 : (Try.prog.info? 81).map (fun i => (i.zero, i.size, i.bytes)) = some (some (.agg txnZero), 10, 104) := by kernel_rfl
theorem Try.info35 : (Try.prog.info? 35).map (fun i => (i.zero, i.size, i.bytes)) = some (some (.agg anoZero), 2, 32) := by kernel_rfl

theorem make_txns (n : Nat) (hn : n ≤ 1048576) (w : World) :
    (Instr.makeSlice 70 (.int .i64 (n : Int)) (.int .i64 (n : Int))).run Try.prog w = .ok (.slice (some ⟨w.heap.size, 0, none⟩) n n) (w.alloc (.cells (txnMade n) 81)) := by
  obtain ⟨i, hi, hz, hs, hb⟩ := info_parts Try.info81
  have hr := run_make (P := Try.prog) w 70 81 i _ Try.underlying70 hi hz .i64 .i64 n n (by omega) (Int.le_refl _) (by rw [hb]; omega) (by omega)
  simp only [Int.toNat_natCast, hs] at hr
  exact hr

theorem make_anos (n : Nat) (hn : n ≤ 1048576) (w : World) :
    (Instr.makeSlice 31 (.int .i64 (n : Int)) (.int .i64 (n : Int))).run Try.prog w = .ok (.slice (some ⟨w.heap.size, 0, none⟩) n n) (w.alloc (.cells (anoMade n) 35)) := by
  obtain ⟨i, hi, hz, hs, hb⟩ := info_parts Try.info35
  have hr := run_make (P := Try.prog) w 31 35 i _ Try.underlying31 hi hz .i64 .i64 n n (by omega) (Int.le_refl _) (by rw [hb]; omega) (by omega)
  simp only [Int.toNat_natCast, hs] at hr
  exact hr

theorem row_txns (w : World) (n : Nat) : (w.alloc (.cells (txnMade n) 81)).rowIs w.heap.size 81 (n * 10) (fun i => txnCell 0 (i % 10)) := by
  refine ⟨_, Go.Deep.blk_alloc_new _ _, size_madeCells _ _, fun i hi => ?_⟩
  have h10 : i % 10 < 10 := Nat.mod_lt _ (by omega)
  simp only [txnMade, madeCells, Array.getElem?_map, Array.getElem?_range, hi, if_true, Option.map_some]
  show some (txnZero[i % 10]!) = _
  congr 1
  generalize i % 10 = j at h10
  match j, h10 with
  | 0, _ => rfl
  | 1, _ => rfl
  | 2, _ => rfl
  | 3, _ => rfl
  | 4, _ => rfl
  | 5, _ => rfl
  | 6, _ => rfl
  | 7, _ => rfl
  | 8, _ => rfl
  | 9, _ => rfl

theorem row_anos (w : World) (n : Nat) : (w.alloc (.cells (anoMade n) 35)).rowIs w.heap.size 35 (n * 2) (fun _ => .string ByteArray.empty) := by
  refine ⟨_, Go.Deep.blk_alloc_new _ _, size_madeCells _ _, fun i hi => ?_⟩
  have h2 : i % 2 < 2 := Nat.mod_lt _ (by omega)
  simp only [anoMade, madeCells, Array.getElem?_map, Array.getElem?_range, hi, if_true, Option.map_some]
  show some (anoZero[i % 2]!) = _
  congr 1
  generalize i % 2 = j at h2
  match j, h2 with
  | 0, _ => rfl
  | 1, _ => rfl

def hisF (vt va : Value) (al : Int) (ac : ByteArray) : Nat → Value
  | 0 => .slice none 0 0
  | 1 => vt
  | 2 => .slice none 0 0
  | 3 => .map none
  | 4 => .map none
  | 5 => va
  | 6 => .map none
  | 7 => .int .i64 al
  | _ => .string ac

/-- What stands behind the first statement of ZZResult. -/
structure Made (w wc : World) (n lk g ga : Nat) (al : Int) (ac : ByteArray) (ft fa : Nat → Value) : Prop where
  below : Below w.heap.size w wc
  size : w.heap.size + 1 + 1 < wc.heap.size
  g0 : w.heap.size ≤ g
  g1 : g < w.heap.size + 1 + 1
  a0 : w.heap.size ≤ ga
  a1 : ga < w.heap.size + 1 + 1
  ne : g ≠ ga
  txns : wc.rowIs g 81 (n * 10) ft
  anos : wc.rowIs ga 35 (lk * 2) fa
  his : wc.rowIs (w.heap.size + 1 + 1) 75 9 (hisF (.slice (some ⟨g, 0, none⟩) n n) (.slice (some ⟨ga, 0, none⟩) lk lk) al ac)

theorem Made.drew {w wc : World} {n lk g ga : Nat} {al : Int} {ac : ByteArray} {ft fa : Nat → Value} (h : Made w wc n lk g ga al ac ft fa) : Made w wc.drew n lk g ga al ac ft fa :=
  ⟨h.below.drew, h.size, h.g0, h.g1, h.a0, h.a1, h.ne, h.txns.drew, h.anos.drew, h.his.drew⟩

theorem Made.setTxn {w wc : World} {n lk g ga : Nat} {al : Int} {ac : ByteArray} {ft fa ft' : Nat → Value} (h : Made w wc n lk g ga al ac ft fa) (i : Nat) (v : Value)
    (e : ∀ j, j < n * 10 → (if j = i then v else ft j) = ft' j) : Made w (wc.setCell ⟨g, i, none⟩ v) n lk g ga al ac ft' fa :=
  ⟨h.below.setCell h.g0 _, by simpa using h.size, h.g0, h.g1, h.a0, h.a1, h.ne, (h.txns.set i v).congr e, h.anos.setOther (by simpa using h.ne.symm) _, h.his.setOther (by have := h.g1; simp; omega) _⟩

theorem Made.setAno {w wc : World} {n lk g ga : Nat} {al : Int} {ac : ByteArray} {ft fa fa' : Nat → Value} (h : Made w wc n lk g ga al ac ft fa) (i : Nat) (v : Value)
    (e : ∀ j, j < lk * 2 → (if j = i then v else fa j) = fa' j) : Made w (wc.setCell ⟨ga, i, none⟩ v) n lk g ga al ac ft fa' :=
  ⟨h.below.setCell h.a0 _, by simpa using h.size, h.g0, h.g1, h.a0, h.a1, h.ne, h.txns.setOther (by simpa using h.ne) _, (h.anos.set i v).congr e, h.his.setOther (by have := h.a1; simp; omega) _⟩

theorem row_his (w : World) (vt va : Value) (al : Int) (ac : ByteArray) :
    (w.alloc (.cells #[.slice none 0 0, vt, .slice none 0 0, .map none, .map none, va, .map none, .int .i64 al, .string ac] 75)).rowIs w.heap.size 75 9 (hisF vt va al ac) := by
  refine World.rowIs_alloc w _ 75 _ ?_
  intro i hi
  simp at hi
  match i, hi with
  | 0, _ => rfl
  | 1, _ => rfl
  | 2, _ => rfl
  | 3, _ => rfl
  | 4, _ => rfl
  | 5, _ => rfl
  | 6, _ => rfl
  | 7, _ => rfl
  | 8, _ => rfl

theorem made_one (w : World) (n lk : Nat) (al : Int) (ac : ByteArray) :
    Made w (((w.alloc (.cells (txnMade n) 81)).alloc (.cells (anoMade lk) 35)).alloc (.cells #[.slice none 0 0, .slice (some ⟨w.heap.size, 0, none⟩) n n, .slice none 0 0, .map none, .map none, .slice (some ⟨w.heap.size + 1, 0, none⟩) lk lk, .map none, .int .i64 al, .string ac] 75))
      n lk w.heap.size (w.heap.size + 1) al ac (fun i => txnCell 0 (i % 10)) (fun _ => .string ByteArray.empty) := by
  refine ⟨(((Below.refl _ _).alloc (Nat.le_refl _) _).alloc (by simp) _).alloc (by simp; omega) _, by simp, by omega, by omega, by omega, by omega, by omega, ?_, ?_, ?_⟩
  · exact ((row_txns w n).alloc _).alloc _
  · have := row_anos (w.alloc (.cells (txnMade n) 81)) lk
    simp only [World.size_alloc] at this
    exact this.alloc _
  · have := row_his ((w.alloc (.cells (txnMade n) 81)).alloc (.cells (anoMade lk) 35)) (.slice (some ⟨w.heap.size, 0, none⟩) n n) (.slice (some ⟨w.heap.size + 1, 0, none⟩) lk lk) al ac
    simp only [World.size_alloc] at this
    exact this

theorem made_two (w : World) (n lk : Nat) (al : Int) (ac : ByteArray) :
    Made w (((w.alloc (.cells (anoMade lk) 35)).alloc (.cells (txnMade n) 81)).alloc (.cells #[.slice none 0 0, .slice (some ⟨w.heap.size + 1, 0, none⟩) n n, .slice none 0 0, .map none, .map none, .slice (some ⟨w.heap.size, 0, none⟩) lk lk, .map none, .int .i64 al, .string ac] 75))
      n lk (w.heap.size + 1) w.heap.size al ac (fun i => txnCell 0 (i % 10)) (fun _ => .string ByteArray.empty) := by
  refine ⟨(((Below.refl _ _).alloc (Nat.le_refl _) _).alloc (by simp) _).alloc (by simp; omega) _, by simp, by omega, by omega, by omega, by omega, by omega, ?_, ?_, ?_⟩
  · have := row_txns (w.alloc (.cells (anoMade lk) 35)) n
    simp only [World.size_alloc] at this
    exact this.alloc _
  · exact ((row_anos w lk).alloc _).alloc _
  · have := row_his ((w.alloc (.cells (anoMade lk) 35)).alloc (.cells (txnMade n) 81)) (.slice (some ⟨w.heap.size + 1, 0, none⟩) n n) (.slice (some ⟨w.heap.size, 0, none⟩) lk lk) al ac
    simp only [World.size_alloc] at this
    exact this

set_option maxHeartbeats 1000000 in
theorem zzresult_calls (a ak ad : Option Addr) (n cap lk ck cd : Nat) (zs : List Int) (ks ds : List ByteArray) (al : Int) (ac : ByteArray) (w : World) (hn : n ≤ 1048576) (hk : lk ≤ 1048576)
    (hz : IsI .u8 w a n cap zs) (hks : IsS w ak lk ck ks) (hds : IsS w ad lk cd ds) :
    Calls Try.prog 14 #[.slice a n cap, .slice ak lk ck, .slice ad lk cd, .int .i64 al, .string ac] w fun e w' => ∃ r ga, e = .returned (.pointer (some ⟨r, 0, none⟩)) ∧ Below w.heap.size w w' ∧
      IsRep w' r (cnt pT zs) (cnt pC zs) (cnt pA zs) (cnt pU zs) (.slice (some ⟨ga, 0, none⟩) lk lk) al ac ∧
      w'.rowIs ga 35 (lk * 2) (fun i => .string (if i % 2 = 0 then ks.getD (i / 2) ByteArray.empty else ds.getD (i / 2) ByteArray.empty)) := by
  have mt := make_txns n hn
  have ma := make_anos lk hk
  have HZ : Hid (IsI .u8 w a n cap zs) := hz
  have HK : Hid (IsS w ak lk ck ks) := hks
  have HD : Hid (IsS w ad lk cd ds) := hds
  clear hz hks hds
  go_enter Try.func14, Try.ntmps14
  go_upto_region 1 with fail
  go_cut [11] from 12 (fun s wc => ∃ g ga, s = .pointer (some ⟨w.heap.size + 1 + 1, 0, none⟩) ∧ Made w wc n lk g ga al ac (fun i => txnCell 0 (i % 10)) (fun _ => .string ByteArray.empty))
  case first =>
    go_region
    all_goals
      go_wp2_with fail
      go_meet
      case rel =>
        first
        | exact ⟨_, _, rfl, (made_one w n lk al ac).drew⟩
        | exact ⟨_, _, rfl, (made_two w n lk al ac).drew⟩
  case rest =>
    obtain ⟨g, ga, rfl, hM⟩ := hcut
    go_wp2_with fail
    go_loopw [26] (fun i wr => ∃ k : Nat, k ≤ n ∧ i = .int .i64 k ∧ Made w wr n lk g ga al ac (fun i => txnCell (if i / 10 < k then zs.getD (i / 10) 0 else 0) (i % 10)) (fun _ => .string ByteArray.empty)) (fun i _ => n - (intOf i).toNat)
    case atStart => exact ⟨0, Nat.zero_le _, rfl, by simpa using hM⟩
    case round =>
      obtain ⟨k, hkn, rfl, hM⟩ := hrel
      by_cases hlt : k < n
      · obtain ⟨b, off, hx, hc⟩ := HZ.out.at_ (by omega)
        subst hx
        have hck : wr.cell? ⟨b, off + k, none⟩ = some (.int .u8 (zs.getD k 0)) := by
          rw [hM.below.cell (World.block_lt_of_cell? w _ (hc k hlt))]; exact hc k hlt
        have hct : wr.cell? ⟨g, k * 10 + 4, none⟩ = some (txnCell (if (k * 10 + 4) / 10 < k then zs.getD ((k * 10 + 4) / 10) 0 else 0) ((k * 10 + 4) % 10)) := hM.txns.cell (by omega)
        rw [show (k * 10 + 4) / 10 = k by omega, show (k * 10 + 4) % 10 = 4 by omega, if_neg (by omega)] at hct
        simp only [txnCell] at hct
        have hft := hM.txns.frozen (k * 10 + 4)
        have hh : wr.cell? ⟨w.heap.size + 1 + 1, 1, none⟩ = some (.slice (some ⟨g, 0, none⟩) n n) := hM.his.cell (i := 1) (by omega)
        clear hc
        go_wp2_with fail
        go_region
        go_wp2
        go_roundw
        case rel =>
          refine ⟨k + 1, by omega, by go_num, Made.drew (hM.setTxn _ _ ?_)⟩
          intro j hj
          by_cases hjk : j = k * 10 + 4
          · subst hjk
            rw [if_pos rfl, show (k * 10 + 4) / 10 = k by omega, show (k * 10 + 4) % 10 = 4 by omega, if_pos (by omega)]
            simp [txnCell]
          · rw [if_neg hjk]
            by_cases h1 : j / 10 < k
            · rw [if_pos h1, if_pos (by omega)]
            · rw [if_neg h1]
              by_cases h2 : j / 10 = k
              · rw [if_pos (by omega)]
                have h4 : j % 10 ≠ 4 := by omega
                have h10 : j % 10 < 10 := by omega
                generalize j % 10 = q at h4 h10
                match q, h4, h10 with
                | 0, _, _ => rfl
                | 1, _, _ => rfl
                | 2, _, _ => rfl
                | 3, _, _ => rfl
                | 5, _, _ => rfl
                | 6, _, _ => rfl
                | 7, _, _ => rfl
                | 8, _, _ => rfl
                | 9, _, _ => rfl
              · rw [if_neg (by omega)]
        case measure => simp [intOf]; omega
      · go_wp2_with fail
        obtain rfl : k = n := by omega
        go_loopw [43] (fun i wr => ∃ m : Nat, m ≤ lk ∧ i = .int .i64 m ∧ Made w wr k lk g ga al ac (fun i => txnCell (if i / 10 < k then zs.getD (i / 10) 0 else 0) (i % 10)) (fun i => .string (if i / 2 < m then (if i % 2 = 0 then ks.getD (i / 2) ByteArray.empty else ds.getD (i / 2) ByteArray.empty) else ByteArray.empty))) (fun i _ => lk - (intOf i).toNat)
        case atStart => exact ⟨0, Nat.zero_le _, rfl, by simpa using hM⟩
        case round =>
          clear hM
          obtain ⟨m, hmk, rfl, hM⟩ := hrel
          by_cases hlt : m < lk
          · obtain ⟨b, off, hx, hc⟩ := HK.out.at_ (by omega)
            obtain ⟨b', off', hx', hc'⟩ := HD.out.at_ (by omega)
            subst hx hx'
            have hck : wr.cell? ⟨b, off + m, none⟩ = some (.string (ks.getD m ByteArray.empty)) := by
              rw [hM.below.cell (World.block_lt_of_cell? w _ (hc m hlt))]; exact hc m hlt
            have hcd : wr.cell? ⟨b', off' + m, none⟩ = some (.string (ds.getD m ByteArray.empty)) := by
              rw [hM.below.cell (World.block_lt_of_cell? w _ (hc' m hlt))]; exact hc' m hlt
            have hx0 : wr.cell? ⟨ga, m * 2, none⟩ = some _ := hM.anos.cell (i := m * 2) (by omega)
            have hx1 : wr.cell? ⟨ga, m * 2 + 1, none⟩ = some _ := hM.anos.cell (i := m * 2 + 1) (by omega)
            have hf0 := hM.anos.frozen (m * 2)
            have hf1 := hM.anos.frozen (m * 2 + 1)
            have hh : wr.cell? ⟨w.heap.size + 1 + 1, 5, none⟩ = some (.slice (some ⟨ga, 0, none⟩) lk lk) := hM.his.cell (i := 5) (by omega)
            clear hc hc'
            generalize hsk : ks.getD m ByteArray.empty = sk at *
            generalize hsd : ds.getD m ByteArray.empty = sd at *
            have HSK : Hid (ks.getD m ByteArray.empty = sk) := hsk
            have HSD : Hid (ds.getD m ByteArray.empty = sd) := hsd
            clear hsk hsd
            go_wp2_with fail
            go_region
            go_wp2
            go_roundw
            case rel =>
              refine ⟨m + 1, by omega, by go_num, Made.drew ((hM.setAno (fa' := fun i => if i = m * 2 then .string sk else .string (if i / 2 < m then (if i % 2 = 0 then ks.getD (i / 2) ByteArray.empty else ds.getD (i / 2) ByteArray.empty) else ByteArray.empty)) _ _ (fun j _ => rfl)).setAno _ _ ?_)⟩
              intro j hj
              by_cases hj1 : j = m * 2 + 1
              · subst hj1
                rw [if_pos rfl, show (m * 2 + 1) / 2 = m by omega, show (m * 2 + 1) % 2 = 1 by omega, if_pos (by omega), if_neg (by omega), HSD.out]
              · rw [if_neg hj1]
                by_cases hj0 : j = m * 2
                · subst hj0
                  rw [if_pos rfl, show (m * 2) / 2 = m by omega, show (m * 2) % 2 = 0 by omega, if_pos (by omega), if_pos rfl, HSK.out]
                · rw [if_neg hj0]
                  by_cases h1 : j / 2 < m
                  · have h2 : j / 2 < m + 1 := by omega
                    simp only [h1, h2, if_true]
                  · rw [if_neg h1, if_neg (by omega)]
            case measure => simp [intOf]; omega
          · go_wp2_with fail
            obtain rfl : m = lk := by omega
            have hh1 : wr.cell? ⟨w.heap.size + 1 + 1, 1, none⟩ = some (.slice (some ⟨g, 0, none⟩) k k) := hM.his.cell (i := 1) (by omega)
            have hh5 : wr.cell? ⟨w.heap.size + 1 + 1, 5, none⟩ = some (.slice (some ⟨ga, 0, none⟩) m m) := hM.his.cell (i := 5) (by omega)
            have hh7 : wr.cell? ⟨w.heap.size + 1 + 1, 7, none⟩ = some (.int .i64 al) := hM.his.cell (i := 7) (by omega)
            have hh8 : wr.cell? ⟨w.heap.size + 1 + 1, 8, none⟩ = some (.string ac) := hM.his.cell (i := 8) (by omega)
            refine (result_calls (w.heap.size + 1 + 1) g k zs (some ⟨ga, 0, none⟩) m m al ac wr hn HZ.out.length hh1 hh5 hh7 hh8 ?_).mono ?_
            · intro i hi j hj
              rw [hM.txns.cell (i := i * 10 + j) (by omega)]
              rw [show (i * 10 + j) / 10 = i by omega, show (i * 10 + j) % 10 = j by omega, if_pos hi]
            · rintro e w' ⟨r, rfl, hb, hrep⟩
              go_wp2
              go_ret
              have hbb := hM.below.trans (hb.mono hM.below.size)
              refine ⟨r, ga, rfl, hbb, hrep, ?_⟩
              have := hM.anos.of_block (hb.block ga hM.anos.lt)
              refine this.congr (fun i hi => ?_)
              rw [if_pos (by omega)]
end Go.Proofs.Qxb6602594a

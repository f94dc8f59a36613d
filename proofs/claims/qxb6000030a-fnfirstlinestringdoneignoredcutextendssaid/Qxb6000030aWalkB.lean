import Derived.Test.Qxb6000030aWalkA
import Derived.Laws.CopyOwn
import Derived.WalkSpells
import Derived.Deep.OwnRows
import Derived.BigQuiet
import Derived.Outline
namespace Go.Proofs.Qxb6000030a
open Go.RowKit

theorem Try.info5 : (Try.prog.info? 5).map (fun i => (i.zero, i.size, i.bytes)) = some (some (.int .u8 0), 1, 1) := by kernel_rfl
theorem Try.size5 : (Try.prog.info? 5).map (·.size) = some 1 := by kernel_rfl

set_option maxHeartbeats 400000 in
theorem walk_long (a : Option Addr) (len cap : Nat) (w : World) (h : 1048576 < len) (hm : len ≤ maxLen) :
    Calls Try.prog 3 #[.slice a len cap] w fun e w' => e = .returned (.bool true) ∧ Below w.heap.size w w' := by
  go_enter Try.func3, Try.ntmps3
  go_wp2_with (go_at_call 4; refine (bytes_no a len cap w h hm).mono ?_; rintro e w' ⟨rfl, rfl⟩)
  go_ret
  exact ⟨rfl, Below.refl _ _⟩

theorem size_dots (S : ByteArray) : (S ++ dots).size = S.size + 4 := by
  rw [ByteArray.size_append]; rfl

theorem get_dots (S : ByteArray) (k : Nat) (h : k < S.size) (h' : k < (S ++ dots).size) : (S ++ dots)[k] = S[k] := by
  rw [ByteArray.getElem_append_left h]

set_option maxHeartbeats 1000000 in
theorem walk_nil (S : ByteArray) (w : World) (H : Conv w none 0 0 S) (hS : S.size ≤ 1048576) :
    Calls Try.prog 3 #[.slice none 0 0] w fun e w' => e = .returned (.bool true) ∧ Below w.heap.size w w' := by
  have hn := fun w a n c => run_neq_slice_nil_any (P := Try.prog) w 22 5 a n c 0 0 Try.underlying22
  obtain ⟨T, hT⟩ : ∃ T, T = S ++ dots := ⟨_, rfl⟩
  have hTs : T.size = S.size + 4 := by rw [hT]; exact size_dots S
  have hTg : ∀ k (h : k < S.size) (h' : k < T.size), T[k] = S[k] := by subst hT; exact get_dots S
  have hcut : ∀ (a : Option Addr) (len cap : Nat) (d : Bool) (w : World), Conv w a len cap S →
    Calls Try.prog 5 #[.slice a len cap, .bool d, .bool true] w fun e w' => e = .returned (.string T) ∧ Below w.heap.size w w' := by
    subst hT; exact fun a len cap d w H => string_cut a len cap d w S hS H
  have hne : ((T.size : Int) != (S.size : Int) + 4) = false := by rw [hTs]; simp
  have hTS : S.size < T.size := by omega
  have HG : Hid (∀ k (h : k < S.size) (h' : k < T.size), T[k] = S[k]) := hTg
  have HC := hcut
  clear hT hTs hTg hcut
  go_enter Try.func3, Try.ntmps3
  go_wp2_with (go_at_call 4; refine (bytes_yes none 0 0 w (by omega)).mono ?_; rintro e w' ⟨rfl, hw⟩; subst hw)
  refine (string_plain _ _ _ _ _ S H).mono ?_
  rintro e w1 ⟨rfl, hb1⟩
  go_wp2_with fail
  refine (string_plain _ _ _ _ _ S (H.later hb1)).mono ?_
  rintro e w2 ⟨rfl, hb2⟩
  have hb2 := hb1.trans (hb2.mono hb1.size)
  go_wp2_with fail
  refine (HC _ _ _ _ _ (H.later hb2)).mono ?_
  rintro e w3 ⟨rfl, hb3⟩
  have hb3 := hb2.trans (hb3.mono hb2.size)
  go_wp2_with fail
  refine (HC _ _ _ _ _ (H.later hb3)).mono ?_
  rintro e w4 ⟨rfl, hb4⟩
  have hb4 := hb3.trans (hb4.mono hb3.size)
  go_wp2_with fail
  go_loopw [8] (fun i wr => ∃ k : Nat, k ≤ S.size ∧ i = .int .i64 k ∧ Below w'.heap.size w' wr) (fun i _ => S.size - (intOf i).toNat)
  case atStart => exact ⟨0, Nat.zero_le _, rfl, hb4⟩
  case round =>
    obtain ⟨k, hk, rfl, hbr⟩ := hrel
    by_cases hlt : k < S.size
    · have hTk : k < T.size := by omega
      have hg : ((T[k].toNat : Int) != (S[k].toNat : Int)) = false := by rw [HG.out k hlt hTk]; simp
      go_wp2_with fail
      go_quiet (fail)
      go_wp2
      go_roundw
      case rel => exact ⟨k + 1, by omega, by go_num, below_drewN hbr _⟩
      case measure => simp [intOf]; omega
    · go_wp2
      go_ret
      exact ⟨rfl, hbr⟩

theorem copied (x : Addr) (len cap : Nat) (w : World) (cs : List Int) (hcs : cs.length = len)
    (hcell : ∀ i, i < len → w.cell? (x.add i) = some (.int .u8 (cs.getD i 0))) :
    ∃ W1, (Builtin.copy_ #[22, 22] 3 #[.slice (some ⟨w.heap.size, 0, none⟩) len len, .slice (some x) len cap]).run Try.prog (w.alloc (.cells (madeCells #[.int .u8 0] len) 5)) = .ok (.int .i64 len) W1 ∧
      Below w.heap.size w W1 ∧ Conv W1 (some ⟨w.heap.size, 0, none⟩) len len (strOfNums cs) := by
  have hlc : (cs.map (Value.int .u8)).length = len := by simpa using hcs
  have hnew : (w.alloc (.cells (madeCells #[.int .u8 0] len) 5)).heap[w.heap.size]? = some (.cells (madeCells #[.int .u8 0] len) 5 (0, 0)) := heap_alloc_new w _
  have hb0 : Below w.heap.size w (w.alloc (.cells (madeCells #[.int .u8 0] len) 5)) := (Below.refl _ _).alloc (Nat.le_refl _) _
  have hsrc : ∀ (j : Nat) v, (cs.map (Value.int .u8))[j]? = some v → (w.alloc (.cells (madeCells #[.int .u8 0] len) 5)).cell? (x.add j) = some v := by
    intro j v hj
    have hjl : j < cs.length := by
      have := (List.getElem?_eq_some_iff.1 hj).1
      simpa using this
    have h1 := hcell j (by omega)
    have hlt := World.block_lt_of_cell? w _ h1
    rw [hb0.cell hlt, h1]
    rw [← hj]
    simp [List.getD, List.getElem?_eq_getElem hjl]
  have hr := run_copy_row Try.prog (w.alloc (.cells (madeCells #[.int .u8 0] len) 5)) 22 22 3 5 w.heap.size 0 len len x len cap _ 5 (cs.map (Value.int .u8)) Try.underlying22 Try.size5 hnew
    (by rw [hlc]; simp) hsrc (by rw [hlc, size_madeCells]; omega) (ints_oneCell _ _)
  rw [hlc] at hr
  have hb1 := below_setRow hb0 (Nat.le_refl _) (((madeCells #[Value.int .u8 0] len).toList.take 0 ++ cs.map (Value.int .u8) ++ (madeCells #[Value.int .u8 0] len).toList.drop (0 + len)).toArray)
  refine ⟨_, hr, hb1, ?_⟩
  intro w' hb
  have hrow := setRow_heap (w.alloc (.cells (madeCells #[.int .u8 0] len) 5)) w.heap.size _ (((madeCells #[Value.int .u8 0] len).toList.take 0 ++ cs.map (Value.int .u8) ++ (madeCells #[Value.int .u8 0] len).toList.drop (0 + len)).toArray) 5 _ hnew
  have hlt := (Array.getElem?_eq_some_iff.1 hrow).1
  rw [← hb.block _ hlt] at hrow
  refine run_convert_bytes_arg w' 22 5 Try.underlying22 Try.underlying5 w.heap.size 0 len len cs hcs ?_ 9 Try.underlying9
  intro i hi
  rw [cell_of_row w' w.heap.size (0 + i) _ 5 (0, 0) hrow]
  simp [List.getElem?_append, hcs, hi, List.getD]

set_option maxHeartbeats 1000000 in
theorem walk_some (x : Addr) (len cap : Nat) (w : World) (cs : List Int) (S : ByteArray) (hlen : len ≤ 1048576) (hcs : cs.length = len)
    (hcell : ∀ i, i < len → w.cell? (x.add i) = some (.int .u8 (cs.getD i 0))) (hS : S.size ≤ 1048576) (hSS : S = strOfNums cs) :
    Calls Try.prog 3 #[.slice (some x) len cap] w fun e w' => e = .returned (.bool true) ∧ Below w.heap.size w w' := by
  have hmk := fun w => run_make_row' (P := Try.prog) 22 5 (.int .u8 0) 1 Try.underlying22 Try.info5 rfl .i64 .i64 len (by omega) (by omega) w
  obtain ⟨W1, hcp, hbW, H⟩ := copied x len cap w cs hcs hcell
  rw [← hSS] at H
  clear hSS hcs hcell
  have hn := fun w a n c => run_neq_slice_nil_any (P := Try.prog) w 22 5 a n c 0 0 Try.underlying22
  obtain ⟨T, hT⟩ : ∃ T, T = S ++ dots := ⟨_, rfl⟩
  have hTs : T.size = S.size + 4 := by rw [hT]; exact size_dots S
  have hTg : ∀ k (h : k < S.size) (h' : k < T.size), T[k] = S[k] := by subst hT; exact get_dots S
  have hcut : ∀ (a : Option Addr) (len cap : Nat) (d : Bool) (w : World), Conv w a len cap S →
    Calls Try.prog 5 #[.slice a len cap, .bool d, .bool true] w fun e w' => e = .returned (.string T) ∧ Below w.heap.size w w' := by
    subst hT; exact fun a len cap d w H => string_cut a len cap d w S hS H
  have hne : ((T.size : Int) != (S.size : Int) + 4) = false := by rw [hTs]; simp
  have hTS : S.size < T.size := by omega
  have HG : Hid (∀ k (h : k < S.size) (h' : k < T.size), T[k] = S[k]) := hTg
  have HC := hcut
  clear hT hTs hTg hcut
  go_enter Try.func3, Try.ntmps3
  go_wp2_with (go_at_call 4; refine (bytes_yes (some x) len cap w (by omega)).mono ?_; rintro e w' ⟨rfl, hw⟩; subst hw)
  refine (string_plain _ _ _ _ _ S H).mono ?_
  rintro e w1 ⟨rfl, hb1⟩
  go_wp2_with fail
  refine (string_plain _ _ _ _ _ S (H.later hb1)).mono ?_
  rintro e w2 ⟨rfl, hb2⟩
  have hb2 := hb1.trans (hb2.mono hb1.size)
  go_wp2_with fail
  refine (HC _ _ _ _ _ (H.later hb2)).mono ?_
  rintro e w3 ⟨rfl, hb3⟩
  have hb3 := hb2.trans (hb3.mono hb2.size)
  go_wp2_with fail
  refine (HC _ _ _ _ _ (H.later hb3)).mono ?_
  rintro e w4 ⟨rfl, hb4⟩
  have hb4 := hb3.trans (hb4.mono hb3.size)
  have hb4 := hbW.trans (hb4.mono hbW.size)
  go_wp2_with fail
  go_loopw [8] (fun i wr => ∃ k : Nat, k ≤ S.size ∧ i = .int .i64 k ∧ Below w'.heap.size w' wr) (fun i _ => S.size - (intOf i).toNat)
  case atStart => exact ⟨0, Nat.zero_le _, rfl, hb4⟩
  case round =>
    obtain ⟨k, hk, rfl, hbr⟩ := hrel
    by_cases hlt : k < S.size
    · have hTk : k < T.size := by omega
      have hg : ((T[k].toNat : Int) != (S[k].toNat : Int)) = false := by rw [HG.out k hlt hTk]; simp
      go_wp2_with fail
      go_quiet (fail)
      go_wp2
      go_roundw
      case rel => exact ⟨k + 1, by omega, by go_num, below_drewN hbr _⟩
      case measure => simp [intOf]; omega
    · go_wp2
      go_ret
      exact ⟨rfl, hbr⟩
end Go.Proofs.Qxb6000030a

import Derived.Test.Qxb6002391aA
namespace Go.Proofs.Qxb6002391a
open Go.RowKit
set_option linter.unusedSimpArgs false
set_option linter.unusedVariables false

set_option maxHeartbeats 1000000 in
theorem merge_ok (app : Option Addr) (a_s : ByteArray) (apx : Int) (aan : ByteArray) (aht aha : Bool) (ata aaa : Int) (a_nd : Option Addr)
    (bpp : Option Addr) (bs : ByteArray) (bpx : Int) (ban : ByteArray) (bht bha : Bool) (bta baa : Int) (bnd : Option Addr) (w : World) (h1 : (bht && aht) = false) (h2 : (bha && aha) = false) :
    Calls Try.prog 18 #[pv app a_s apx aan aht aha ata aaa a_nd, pv bpp bs bpx ban bht bha bta baa bnd] w fun e w' =>
      e = .returned (.tuple #[pv (bif bht then bpp else app) (bif bht then bs else a_s) (bif bht then bpx else apx) (bif bha then ban else aan) (aht || bht) (aha || bha) (bif bht then bta else ata) (bif bha then baa else aaa) (bif bha then bnd else a_nd), .nilIface]) ∧ Below w.heap.size w w' := by
  cases bht with
  | false =>
    cases bha with
    | false =>
      go_enter Try.func18, Try.ntmps18
      go_wp2
      all_goals exact bodyPost_ret (v := .tuple #[pv app a_s apx aan (aht || false) (aha || false) ata aaa a_nd, .nilIface]) (by simp [results, Try.results18, go_sem]) rfl ⟨rfl, by repeat (first | exact Below.refl _ _ | refine Below.drew ?_ | refine Below.alloc ?_ (by simp <;> omega) _)⟩
    | true =>
      obtain rfl : aha = false := by simpa using h2
      go_enter Try.func18, Try.ntmps18
      go_wp2
      go_region
      all_goals go_wp2
      all_goals exact bodyPost_ret (v := .tuple #[pv app a_s apx ban (aht || false) true ata baa bnd, .nilIface]) (by simp [results, Try.results18, go_sem]) rfl ⟨rfl, by repeat (first | exact Below.refl _ _ | refine Below.drew ?_ | refine Below.alloc ?_ (by simp <;> omega) _)⟩
  | true =>
    obtain rfl : aht = false := by simpa using h1
    cases bha with
    | false =>
      go_enter Try.func18, Try.ntmps18
      go_wp2
      go_region
      all_goals go_wp2
      all_goals exact bodyPost_ret (v := .tuple #[pv bpp bs bpx aan true (aha || false) bta aaa a_nd, .nilIface]) (by simp [results, Try.results18, go_sem]) rfl ⟨rfl, by repeat (first | exact Below.refl _ _ | refine Below.drew ?_ | refine Below.alloc ?_ (by simp <;> omega) _)⟩
    | true =>
      obtain rfl : aha = false := by simpa using h2
      go_enter Try.func18, Try.ntmps18
      go_wp2
      go_region
      all_goals go_wp2
      go_region
      all_goals go_wp2
      all_goals exact bodyPost_ret (v := .tuple #[pv bpp bs bpx ban true true bta baa bnd, .nilIface]) (by simp [results, Try.results18, go_sem]) rfl ⟨rfl, by repeat (first | exact Below.refl _ _ | refine Below.drew ?_ | refine Below.alloc ?_ (by simp <;> omega) _)⟩

set_option maxHeartbeats 1000000 in
theorem merge_clash (app : Option Addr) (a_s : ByteArray) (apx : Int) (aan : ByteArray) (aht aha : Bool) (ata aaa : Int) (a_nd : Option Addr)
    (bpp : Option Addr) (bs : ByteArray) (bpx : Int) (ban : ByteArray) (bht bha : Bool) (bta baa : Int) (bnd : Option Addr) (w : World) (h : (bht && aht) = true ∨ (bha && aha) = true) :
    Calls Try.prog 18 #[pv app a_s apx aan aht aha ata aaa a_nd, pv bpp bs bpx ban bht bha bta baa bnd] w fun e w' =>
      ∃ x, e = .returned (.tuple #[pv none ⟨#[]⟩ 0 ⟨#[]⟩ false false 0 0 none, .iface 48 (.pointer (some x))]) ∧ Below w.heap.size w w' := by
  cases bht with
  | false =>
    obtain ⟨rfl, rfl⟩ : bha = true ∧ aha = true := by simpa using h
    clear h
    go_enter Try.func18, Try.ntmps18
    go_wp2
    go_region
    all_goals go_wp2
    all_goals exact bodyPost_ret (v := .tuple #[pv none ⟨#[]⟩ 0 ⟨#[]⟩ false false 0 0 none, .iface 48 (.pointer (some ⟨w.heap.size + 1 + 1 + 1, 0, none⟩))]) (by simp [results, Try.results18, go_sem]) rfl ⟨_, rfl, by repeat (first | exact Below.refl _ _ | refine Below.drew ?_ | refine Below.alloc ?_ (by simp <;> omega) _)⟩
  | true =>
    cases aht with
    | true =>
      clear h
      go_enter Try.func18, Try.ntmps18
      go_wp2
      go_region
      all_goals go_wp2
      all_goals exact bodyPost_ret (v := .tuple #[pv none ⟨#[]⟩ 0 ⟨#[]⟩ false false 0 0 none, .iface 48 (.pointer (some ⟨w.heap.size + 1 + 1 + 1, 0, none⟩))]) (by simp [results, Try.results18, go_sem]) rfl ⟨_, rfl, by repeat (first | exact Below.refl _ _ | refine Below.drew ?_ | refine Below.alloc ?_ (by simp <;> omega) _)⟩
    | false =>
      obtain ⟨rfl, rfl⟩ : bha = true ∧ aha = true := by simpa using h
      clear h
      go_enter Try.func18, Try.ntmps18
      go_wp2
      go_region
      all_goals go_wp2
      go_region
      all_goals go_wp2
      all_goals exact bodyPost_ret (v := .tuple #[pv none ⟨#[]⟩ 0 ⟨#[]⟩ false false 0 0 none, .iface 48 (.pointer (some ⟨w.heap.size + 1 + 1 + 1, 0, none⟩))]) (by simp [results, Try.results18, go_sem]) rfl ⟨_, rfl, by repeat (first | exact Below.refl _ _ | refine Below.drew ?_ | refine Below.alloc ?_ (by simp <;> omega) _)⟩

set_option maxHeartbeats 1000000 in
theorem fromProps_calls (pp : Option Addr) (hp : Bool) (p : ByteArray) (s : ByteArray) (px : Int) (an : ByteArray) (ht ha : Bool) (ta aa : Int) (nd : Option Addr) (hn : Bool) (no : Int) (w : World) (h1 : PreIs w pp hp p) (h2 : NodeIs w nd hn no) :
    Calls Try.prog 20 #[pv pp s px an ht ha ta aa nd] w fun e w' => e = .returned (zv s hp (bif hp then p else ⟨#[]⟩) px an ht ha ta aa hn (bif hn then no else 0)) ∧ Below w.heap.size w w' := by
  cases hp with
  | false =>
    obtain rfl := h1.no rfl
    cases hn with
    | false =>
      obtain rfl := h2.no rfl
      clear h1 h2
      go_enter Try.func20, Try.ntmps20
      go_wp2
      exact bodyPost_ret (v := zv s false ⟨#[]⟩ px an ht ha ta aa false 0) (by simp [results, Try.results20, go_sem]) rfl ⟨rfl, by repeat (first | exact Below.refl _ _ | refine Below.drew ?_ | refine Below.alloc ?_ (by simp <;> omega) _)⟩
    | true =>
      obtain ⟨b, rfl, hc⟩ := h2.yes rfl
      have hlt : b < w.heap.size := World.block_lt_of_cell? w _ hc
      have hlt1 : b < w.heap.size + 1 := by omega
      have hlt2 : b < w.heap.size + 1 + 1 := by omega
      clear h1 h2
      go_enter Try.func20, Try.ntmps20
      go_wp2
      exact bodyPost_ret (v := zv s false ⟨#[]⟩ px an ht ha ta aa true no) (by simp [results, Try.results20, go_sem]) rfl ⟨rfl, by repeat (first | exact Below.refl _ _ | refine Below.drew ?_ | refine Below.alloc ?_ (by simp <;> omega) _)⟩
  | true =>
    obtain ⟨b', rfl, hc'⟩ := h1.yes rfl
    have hlt' : b' < w.heap.size := World.block_lt_of_cell? w _ hc'
    have hlt1' : b' < w.heap.size + 1 := by omega
    have hlt2' : b' < w.heap.size + 1 + 1 := by omega
    cases hn with
    | false =>
      obtain rfl := h2.no rfl
      clear h1 h2
      go_enter Try.func20, Try.ntmps20
      go_wp2
      exact bodyPost_ret (v := zv s true p px an ht ha ta aa false 0) (by simp [results, Try.results20, go_sem]) rfl ⟨rfl, by repeat (first | exact Below.refl _ _ | refine Below.drew ?_ | refine Below.alloc ?_ (by simp <;> omega) _)⟩
    | true =>
      obtain ⟨b, rfl, hc⟩ := h2.yes rfl
      have hlt : b < w.heap.size := World.block_lt_of_cell? w _ hc
      have hlt1 : b < w.heap.size + 1 := by omega
      have hlt2 : b < w.heap.size + 1 + 1 := by omega
      clear h1 h2
      go_enter Try.func20, Try.ntmps20
      go_wp2
      exact bodyPost_ret (v := zv s true p px an ht ha ta aa true no) (by simp [results, Try.results20, go_sem]) rfl ⟨rfl, by repeat (first | exact Below.refl _ _ | refine Below.drew ?_ | refine Below.alloc ?_ (by simp <;> omega) _)⟩

set_option maxHeartbeats 1000000 in
theorem set_calls (s : ByteArray) (hp : Bool) (p : ByteArray) (px : Int) (an : ByteArray) (ht ha : Bool) (ta aa : Int) (hn : Bool) (no : Int) (w : World) :
    Calls Try.prog 13 #[zv s hp p px an ht ha ta aa hn no] w fun e w' => e = .returned (.bool (ht || ha)) ∧ Below w.heap.size w w' := by
  cases ht
  all_goals
    go_enter Try.func13, Try.ntmps13
    go_wp2_with fail
    refine (toProps_calls s hp p px an _ ha ta aa hn no _).mono ?_
    rintro e w1 ⟨pp, nd, rfl, hb, -, -⟩
    go_wp2
    go_ret
    refine ⟨rfl, Below.alloc ?_ ?_ _⟩
    · exact ((Below.refl _ _).alloc (Nat.le_refl _) _).trans (hb.mono (by simp))
    · have := hb.size; simp at this; omega

def atOf (ht ha : Bool) (ta aa : Int) : Int := if ht = false then aa else if ha = false then ta else min ta aa

set_option maxHeartbeats 1000000 in
theorem at_calls (s : ByteArray) (hp : Bool) (p : ByteArray) (px : Int) (an : ByteArray) (ht ha : Bool) (ta aa : Int) (hn : Bool) (no : Int) (w : World) :
    Calls Try.prog 14 #[zv s hp p px an ht ha ta aa hn no] w fun e w' => e = .returned (.int .i64 (atOf ht ha ta aa)) ∧ Below w.heap.size w w' := by
  cases ht
  all_goals cases ha
  all_goals
    go_enter Try.func14, Try.ntmps14
    go_wp2_with fail
    refine (toProps_calls s hp p px an _ _ ta aa hn no _).mono ?_
    rintro e w1 ⟨pp, nd, rfl, hb, -, -⟩
    go_wp2
    all_goals
      go_ret
      refine ⟨?_, Below.alloc ?_ ?_ _⟩
      · first | (simp [atOf]; done) | (simp [atOf]; omega)
      · exact ((Below.refl _ _).alloc (Nat.le_refl _) _).trans (hb.mono (by simp))
      · have := hb.size; simp at this; omega
end Go.Proofs.Qxb6002391a

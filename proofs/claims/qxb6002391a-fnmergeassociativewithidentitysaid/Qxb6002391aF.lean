import Derived.Test.Qxb6002391aC
namespace Go.Proofs.Qxb6002391a
open Go.RowKit
set_option linter.unusedSimpArgs false
set_option linter.unusedVariables false

def SomeBool (e : Ending) (P : Prop) : Prop := ∃ b : Bool, e = .returned (.bool b) ∧ (b = true → P)
theorem SomeBool.no {P : Prop} : SomeBool (.returned (.bool false)) P := ⟨false, rfl, by simp⟩
theorem SomeBool.yes {P : Prop} (h : P) : SomeBool (.returned (.bool true)) P := ⟨true, rfl, fun _ => h⟩

set_option maxHeartbeats 1000000 in
theorem zzb6_any (a_s : ByteArray) (ahp : Bool) (ap : ByteArray) (apx : Int) (aan : ByteArray) (aht aha : Bool) (ata aaa : Int) (ahn : Bool) (ano : Int)
    (bs : ByteArray) (bhp : Bool) (bp : ByteArray) (bpx : Int) (ban : ByteArray) (bht bha : Bool) (bta baa : Int) (bhn : Bool) (bno : Int) (w : World)
    (k1 : a_s.size ≤ maxLen) (k2 : ap.size ≤ maxLen) (k3 : aan.size ≤ maxLen) (k4 : bs.size ≤ maxLen) (k5 : bp.size ≤ maxLen) (k6 : ban.size ≤ maxLen) :
    Calls Try.prog 6 #[zv a_s ahp ap apx aan aht aha ata aaa ahn ano, zv bs bhp bp bpx ban bht bha bta baa bhn bno] w fun e w' =>
      SomeBool e (a_s.size + ap.size + aan.size + bs.size + bp.size + ban.size ≤ 1048576) ∧ Below w.heap.size w w' := by
  unfold maxLen at k1 k2 k3 k4 k5 k6
  by_cases h1 : 1048576 < a_s.size
  · go_enter Try.func6, Try.ntmps6
    go_wp2
    go_ret
    exact ⟨SomeBool.no, by repeat (first | exact Below.refl _ _ | refine Below.alloc ?_ (by simp <;> omega) _)⟩
  by_cases h2 : 1048576 < ap.size
  · go_enter Try.func6, Try.ntmps6
    go_wp2
    go_ret
    exact ⟨SomeBool.no, by repeat (first | exact Below.refl _ _ | refine Below.alloc ?_ (by simp <;> omega) _)⟩
  by_cases h3 : 1048576 < a_s.size + ap.size
  · go_enter Try.func6, Try.ntmps6
    go_wp2
    go_ret
    exact ⟨SomeBool.no, by repeat (first | exact Below.refl _ _ | refine Below.alloc ?_ (by simp <;> omega) _)⟩
  by_cases h4 : 1048576 < aan.size
  · go_enter Try.func6, Try.ntmps6
    go_wp2
    go_ret
    exact ⟨SomeBool.no, by repeat (first | exact Below.refl _ _ | refine Below.alloc ?_ (by simp <;> omega) _)⟩
  by_cases h5 : 1048576 < a_s.size + ap.size + aan.size
  · go_enter Try.func6, Try.ntmps6
    go_wp2
    go_ret
    exact ⟨SomeBool.no, by repeat (first | exact Below.refl _ _ | refine Below.alloc ?_ (by simp <;> omega) _)⟩
  by_cases h6 : 1048576 < bs.size
  · go_enter Try.func6, Try.ntmps6
    go_wp2
    go_ret
    exact ⟨SomeBool.no, by repeat (first | exact Below.refl _ _ | refine Below.alloc ?_ (by simp <;> omega) _)⟩
  by_cases h7 : 1048576 < a_s.size + ap.size + aan.size + bs.size
  · go_enter Try.func6, Try.ntmps6
    go_wp2
    go_ret
    exact ⟨SomeBool.no, by repeat (first | exact Below.refl _ _ | refine Below.alloc ?_ (by simp <;> omega) _)⟩
  by_cases h8 : 1048576 < bp.size
  · go_enter Try.func6, Try.ntmps6
    go_wp2
    go_ret
    exact ⟨SomeBool.no, by repeat (first | exact Below.refl _ _ | refine Below.alloc ?_ (by simp <;> omega) _)⟩
  by_cases h9 : 1048576 < a_s.size + ap.size + aan.size + bs.size + bp.size
  · go_enter Try.func6, Try.ntmps6
    go_wp2
    go_ret
    exact ⟨SomeBool.no, by repeat (first | exact Below.refl _ _ | refine Below.alloc ?_ (by simp <;> omega) _)⟩
  by_cases h10 : 1048576 < ban.size
  · go_enter Try.func6, Try.ntmps6
    go_wp2
    go_ret
    exact ⟨SomeBool.no, by repeat (first | exact Below.refl _ _ | refine Below.alloc ?_ (by simp <;> omega) _)⟩
  by_cases h11 : 1048576 < a_s.size + ap.size + aan.size + bs.size + bp.size + ban.size
  · go_enter Try.func6, Try.ntmps6
    go_wp2
    go_ret
    exact ⟨SomeBool.no, by repeat (first | exact Below.refl _ _ | refine Below.alloc ?_ (by simp <;> omega) _)⟩
  go_enter Try.func6, Try.ntmps6
  go_wp2
  go_ret
  exact ⟨SomeBool.yes (by omega), by repeat (first | exact Below.refl _ _ | refine Below.alloc ?_ (by simp <;> omega) _)⟩

set_option maxHeartbeats 1000000 in
theorem sameTag_yes (s : ByteArray) (hp : Bool) (p : ByteArray) (px : Int) (an : ByteArray) (ht ha : Bool) (ta aa : Int) (hn : Bool) (no : Int)
    (p' : ByteArray) (an' : ByteArray) (ht' ha' : Bool) (aa' : Int) (hn' : Bool) (no' : Int) (w : World) (h : hp = true → p = p') :
    Calls Try.prog 10 #[zv s hp p px an ht ha ta aa hn no, zv s hp p' px an' ht' ha' ta aa' hn' no'] w fun e w' => e = .returned (.bool true) ∧ Below w.heap.size w w' := by
  cases hp with
  | false =>
    clear h
    go_enter Try.func10, Try.ntmps10
    go_wp2
    go_ret
    exact ⟨rfl, by repeat (first | exact Below.refl _ _ | refine Below.alloc ?_ (by simp <;> omega) _)⟩
  | true =>
    obtain rfl := h rfl
    clear h
    go_enter Try.func10, Try.ntmps10
    go_wp2
    go_ret
    exact ⟨rfl, by repeat (first | exact Below.refl _ _ | refine Below.alloc ?_ (by simp <;> omega) _)⟩

set_option maxHeartbeats 1000000 in
theorem sameAnchor_yes (s : ByteArray) (hp : Bool) (p : ByteArray) (px : Int) (an : ByteArray) (ht ha : Bool) (ta aa : Int) (hn : Bool) (no : Int)
    (s' : ByteArray) (hp' : Bool) (p' : ByteArray) (px' : Int) (ht' ha' : Bool) (ta' : Int) (no' : Int) (w : World) (h : hn = true → no = no') :
    Calls Try.prog 11 #[zv s hp p px an ht ha ta aa hn no, zv s' hp' p' px' an ht' ha' ta' aa hn no'] w fun e w' => e = .returned (.bool true) ∧ Below w.heap.size w w' := by
  cases hn with
  | false =>
    clear h
    go_enter Try.func11, Try.ntmps11
    go_wp2
    go_ret
    exact ⟨rfl, by repeat (first | exact Below.refl _ _ | refine Below.alloc ?_ (by simp <;> omega) _)⟩
  | true =>
    obtain rfl := h rfl
    clear h
    go_enter Try.func11, Try.ntmps11
    go_wp2
    go_ret
    exact ⟨rfl, by repeat (first | exact Below.refl _ _ | refine Below.alloc ?_ (by simp <;> omega) _)⟩

set_option maxHeartbeats 1000000 in
theorem sameNode_yes (s : ByteArray) (hp : Bool) (p : ByteArray) (px : Int) (an : ByteArray) (ht ha : Bool) (ta aa : Int) (hn : Bool) (no : Int)
    (s' : ByteArray) (hp' : Bool) (p' : ByteArray) (px' : Int) (an' : ByteArray) (ht' ha' : Bool) (ta' aa' : Int) (no' : Int) (w : World) (h : hn = true → no = no') :
    Calls Try.prog 12 #[zv s hp p px an ht ha ta aa hn no, zv s' hp' p' px' an' ht' ha' ta' aa' hn no'] w fun e w' => e = .returned (.bool true) ∧ Below w.heap.size w w' := by
  cases hn with
  | false =>
    clear h
    go_enter Try.func12, Try.ntmps12
    go_wp2
    go_ret
    exact ⟨rfl, by repeat (first | exact Below.refl _ _ | refine Below.alloc ?_ (by simp <;> omega) _)⟩
  | true =>
    obtain rfl := h rfl
    clear h
    go_enter Try.func12, Try.ntmps12
    go_wp2
    go_ret
    exact ⟨rfl, by repeat (first | exact Below.refl _ _ | refine Below.alloc ?_ (by simp <;> omega) _)⟩
end Go.Proofs.Qxb6002391a

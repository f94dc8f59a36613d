import Derived.Test.Qxb6002391aF
import Derived.Deep.RegionHeld
namespace Go.Proofs.Qxb6002391a
open Go.RowKit
set_option linter.unusedSimpArgs false
set_option linter.unusedVariables false

set_option maxHeartbeats 4000000 in
theorem zzb17_any (x_s : ByteArray) (x_hp : Bool) (x_p : ByteArray) (x_px : Int) (x_an : ByteArray) (x_ht x_ha : Bool) (x_ta x_aa : Int) (x_hn : Bool) (x_no : Int)
    (y_s : ByteArray) (y_hp : Bool) (y_p : ByteArray) (y_px : Int) (y_an : ByteArray) (y_ht y_ha : Bool) (y_ta y_aa : Int) (y_hn : Bool) (y_no : Int)
    (z_s : ByteArray) (z_hp : Bool) (z_p : ByteArray) (z_px : Int) (z_an : ByteArray) (z_ht z_ha : Bool) (z_ta z_aa : Int) (z_hn : Bool) (z_no : Int) (w : World)
    (k0 : x_s.size ≤ maxLen) (k1 : x_p.size ≤ maxLen) (k2 : x_an.size ≤ maxLen) (k3 : y_s.size ≤ maxLen) (k4 : y_p.size ≤ maxLen) (k5 : y_an.size ≤ maxLen) (k6 : z_s.size ≤ maxLen) (k7 : z_p.size ≤ maxLen) (k8 : z_an.size ≤ maxLen) :
    Calls Try.prog 17 #[zv x_s x_hp x_p x_px x_an x_ht x_ha x_ta x_aa x_hn x_no, zv y_s y_hp y_p y_px y_an y_ht y_ha y_ta y_aa y_hn y_no, zv z_s z_hp z_p z_px z_an z_ht z_ha z_ta z_aa z_hn z_no] w fun e w' =>
      SomeBool e (x_s.size + x_p.size + x_an.size + y_s.size + y_p.size + y_an.size + z_s.size + z_p.size + z_an.size ≤ 1048576) ∧ Below w.heap.size w w' := by
  unfold maxLen at k0 k1 k2 k3 k4 k5 k6 k7 k8
  by_cases h1 : 1048576 < x_s.size
  · go_enter Try.func17, Try.ntmps17
    go_wp2
    go_ret
    exact ⟨SomeBool.no, by repeat (first | exact Below.refl _ _ | refine Below.alloc ?_ (by simp <;> omega) _)⟩
  by_cases h2 : 1048576 < x_p.size
  · go_enter Try.func17, Try.ntmps17
    go_wp2
    go_ret
    exact ⟨SomeBool.no, by repeat (first | exact Below.refl _ _ | refine Below.alloc ?_ (by simp <;> omega) _)⟩
  by_cases h3 : 1048576 < x_s.size + x_p.size
  · go_enter Try.func17, Try.ntmps17
    go_wp2
    go_ret
    exact ⟨SomeBool.no, by repeat (first | exact Below.refl _ _ | refine Below.alloc ?_ (by simp <;> omega) _)⟩
  by_cases h4 : 1048576 < x_an.size
  · go_enter Try.func17, Try.ntmps17
    go_wp2
    go_ret
    exact ⟨SomeBool.no, by repeat (first | exact Below.refl _ _ | refine Below.alloc ?_ (by simp <;> omega) _)⟩
  by_cases h5 : 1048576 < x_s.size + x_p.size + x_an.size
  · go_enter Try.func17, Try.ntmps17
    go_wp2
    go_ret
    exact ⟨SomeBool.no, by repeat (first | exact Below.refl _ _ | refine Below.alloc ?_ (by simp <;> omega) _)⟩
  by_cases h6 : 1048576 < y_s.size
  · go_enter Try.func17, Try.ntmps17
    go_wp2
    go_ret
    exact ⟨SomeBool.no, by repeat (first | exact Below.refl _ _ | refine Below.alloc ?_ (by simp <;> omega) _)⟩
  by_cases h7 : 1048576 < x_s.size + x_p.size + x_an.size + y_s.size
  · go_enter Try.func17, Try.ntmps17
    go_wp2
    go_ret
    exact ⟨SomeBool.no, by repeat (first | exact Below.refl _ _ | refine Below.alloc ?_ (by simp <;> omega) _)⟩
  by_cases h8 : 1048576 < y_p.size
  · go_enter Try.func17, Try.ntmps17
    go_wp2
    go_ret
    exact ⟨SomeBool.no, by repeat (first | exact Below.refl _ _ | refine Below.alloc ?_ (by simp <;> omega) _)⟩
  by_cases h9 : 1048576 < x_s.size + x_p.size + x_an.size + y_s.size + y_p.size
  · go_enter Try.func17, Try.ntmps17
    go_wp2
    go_ret
    exact ⟨SomeBool.no, by repeat (first | exact Below.refl _ _ | refine Below.alloc ?_ (by simp <;> omega) _)⟩
  by_cases h10 : 1048576 < y_an.size
  · go_enter Try.func17, Try.ntmps17
    go_wp2
    go_ret
    exact ⟨SomeBool.no, by repeat (first | exact Below.refl _ _ | refine Below.alloc ?_ (by simp <;> omega) _)⟩
  by_cases h11 : 1048576 < x_s.size + x_p.size + x_an.size + y_s.size + y_p.size + y_an.size
  · go_enter Try.func17, Try.ntmps17
    go_wp2
    go_ret
    exact ⟨SomeBool.no, by repeat (first | exact Below.refl _ _ | refine Below.alloc ?_ (by simp <;> omega) _)⟩
  by_cases h12 : 1048576 < z_s.size
  · go_enter Try.func17, Try.ntmps17
    go_wp2
    go_ret
    exact ⟨SomeBool.no, by repeat (first | exact Below.refl _ _ | refine Below.alloc ?_ (by simp <;> omega) _)⟩
  by_cases h13 : 1048576 < x_s.size + x_p.size + x_an.size + y_s.size + y_p.size + y_an.size + z_s.size
  · go_enter Try.func17, Try.ntmps17
    go_wp2
    go_ret
    exact ⟨SomeBool.no, by repeat (first | exact Below.refl _ _ | refine Below.alloc ?_ (by simp <;> omega) _)⟩
  by_cases h14 : 1048576 < z_p.size
  · go_enter Try.func17, Try.ntmps17
    go_wp2
    go_ret
    exact ⟨SomeBool.no, by repeat (first | exact Below.refl _ _ | refine Below.alloc ?_ (by simp <;> omega) _)⟩
  by_cases h15 : 1048576 < x_s.size + x_p.size + x_an.size + y_s.size + y_p.size + y_an.size + z_s.size + z_p.size
  · go_enter Try.func17, Try.ntmps17
    go_wp2
    go_ret
    exact ⟨SomeBool.no, by repeat (first | exact Below.refl _ _ | refine Below.alloc ?_ (by simp <;> omega) _)⟩
  by_cases h16 : 1048576 < z_an.size
  · go_enter Try.func17, Try.ntmps17
    go_wp2
    go_ret
    exact ⟨SomeBool.no, by repeat (first | exact Below.refl _ _ | refine Below.alloc ?_ (by simp <;> omega) _)⟩
  by_cases h17 : 1048576 < x_s.size + x_p.size + x_an.size + y_s.size + y_p.size + y_an.size + z_s.size + z_p.size + z_an.size
  · go_enter Try.func17, Try.ntmps17
    go_wp2
    go_ret
    exact ⟨SomeBool.no, by repeat (first | exact Below.refl _ _ | refine Below.alloc ?_ (by simp <;> omega) _)⟩
  go_enter Try.func17, Try.ntmps17
  go_wp2
  go_ret
  exact ⟨SomeBool.yes (by omega), by repeat (first | exact Below.refl _ _ | refine Below.alloc ?_ (by simp <;> omega) _)⟩
end Go.Proofs.Qxb6002391a

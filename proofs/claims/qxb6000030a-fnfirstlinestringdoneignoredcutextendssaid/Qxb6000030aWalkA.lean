import Derived.Test.Qxb6000030aRows
import Derived.WalkKit
import Derived.WalkLawsBesides
import Derived.Below
import Derived.Laws.BytesArg
namespace Go.Proofs.Qxb6000030a
open Go.RowKit

set_option maxHeartbeats 400000 in
theorem bytes_no (a : Option Addr) (len cap : Nat) (w : World) (h : 1048576 < len) (hm : len ≤ maxLen) :
    Calls Try.prog 4 #[.slice a len cap] w fun e w' => e = .returned (.bool false) ∧ w' = w := by
  unfold maxLen at hm
  go_enter Try.func4, Try.ntmps4
  go_wp2
  go_ret
  exact ⟨rfl, rfl⟩

set_option maxHeartbeats 400000 in
theorem bytes_yes (a : Option Addr) (len cap : Nat) (w : World) (h : len ≤ 1048576) :
    Calls Try.prog 4 #[.slice a len cap] w fun e w' => e = .returned (.bool true) ∧ w' = w := by
  go_enter Try.func4, Try.ntmps4
  go_wp2
  go_ret
  exact ⟨rfl, rfl⟩

/-- What the conversion of the bytes gives, in this world and in every later one. -/
def Conv (w : World) (a : Option Addr) (len cap : Nat) (S : ByteArray) : Prop :=
  ∀ w', Below w.heap.size w w' → (convert 22 9 (.slice a len cap)).run Try.prog w' = .ok (.string S) w'

theorem Conv.later {w w1 : World} {a : Option Addr} {len cap : Nat} {S : ByteArray} (h : Conv w a len cap S) (hb : Below w.heap.size w w1) : Conv w1 a len cap S :=
  fun w' hw => h w' (hb.trans (hw.mono hb.size))

set_option maxHeartbeats 400000 in
theorem string_plain (a : Option Addr) (len cap : Nat) (d : Bool) (w : World) (S : ByteArray) (H : Conv w a len cap S) :
    Calls Try.prog 5 #[.slice a len cap, .bool d, .bool false] w fun e w' => e = .returned (.string S) ∧ Below w.heap.size w w' := by
  have hc : ∀ o, (convert 22 9 (.slice a len cap)).run Try.prog (w.alloc o) = .ok (.string S) (w.alloc o) := fun o => H _ ((Below.refl _ _).alloc (Nat.le_refl _) _)
  go_enter Try.func5, Try.ntmps5
  go_wp2
  go_ret
  exact ⟨rfl, (Below.refl _ _).alloc (Nat.le_refl _) _⟩

def dots : ByteArray := ⟨#[32, 46, 46, 46]⟩

theorem add_dots (S : ByteArray) (hS : S.size ≤ 1048576) (t : TypeId) (w : World) : (binOp .add t (.string S) (.string ⟨#[32, 46, 46, 46]⟩)).run Try.prog w = .ok (.string (S ++ dots)) w := by
  have h4 : ByteArray.size ⟨#[32, 46, 46, 46]⟩ = 4 := rfl
  simp only [binOp_string_add, Op.stringOp]
  have hm : IntKind.i64.max = 9223372036854775807 := by decide
  rw [if_neg (by rw [h4, hm]; omega)]
  rfl

set_option maxHeartbeats 400000 in
theorem string_cut (a : Option Addr) (len cap : Nat) (d : Bool) (w : World) (S : ByteArray) (hS : S.size ≤ 1048576) (H : Conv w a len cap S) :
    Calls Try.prog 5 #[.slice a len cap, .bool d, .bool true] w fun e w' => e = .returned (.string (S ++ dots)) ∧ Below w.heap.size w w' := by
  have hc : ∀ o, (convert 22 9 (.slice a len cap)).run Try.prog (w.alloc o) = .ok (.string S) (w.alloc o) := fun o => H _ ((Below.refl _ _).alloc (Nat.le_refl _) _)
  have ha := add_dots S hS 9
  go_enter Try.func5, Try.ntmps5
  go_wp2
  go_ret
  exact ⟨rfl, (Below.refl _ _).alloc (Nat.le_refl _) _⟩
end Go.Proofs.Qxb6000030a

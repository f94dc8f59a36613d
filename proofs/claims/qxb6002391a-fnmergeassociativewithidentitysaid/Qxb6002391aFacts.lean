import Derived.Test.Qxb6002391aRows
import Derived.JoinedOf
namespace Go.Proofs.Qxb6002391a

/-! The words of the dump's head, as numbers of signs. The rest of the head is never looked into. -/
def headA : List Nat := [104, 97, 114, 110, 101, 115, 115]
def headB : List Nat := [52, 56, 98, 99, 48, 100, 56, 101, 48, 99, 49, 101, 100, 50, 54, 55, 57, 50, 51, 55, 51, 102, 54, 48, 99, 53, 53, 57, 48, 102, 50, 57, 101, 97, 100, 102, 48, 102, 51, 48, 56, 97, 97, 51, 49, 97, 53, 56, 102, 48, 102, 54, 100, 56, 56, 57, 53, 56, 55, 52, 57, 102, 98, 99]
def headC : List Nat := [99, 117, 116]
def headR : List Nat := [97, 116, 32, 101, 120, 97, 109, 112, 108, 101, 46, 99, 111, 109, 47, 111, 114, 111, 112, 101, 110, 100, 111, 108, 97, 47, 111, 114, 111, 112, 101, 110, 100, 111, 108, 97, 47, 122, 122, 108, 97, 119, 115, 95, 105, 110, 116, 101, 114, 110, 97, 108, 95, 121, 97, 109, 108, 95, 103, 49, 46, 70, 110, 77, 101, 114, 103, 101, 83, 112, 101, 99, 32, 101, 120, 97, 109, 112, 108, 101, 46, 99, 111, 109, 47, 111, 114, 111, 112, 101, 110, 100, 111, 108, 97, 47, 111, 114, 111, 112, 101, 110, 100, 111, 108, 97, 47, 122, 122, 108, 97, 119, 115, 95, 105, 110, 116, 101, 114, 110, 97, 108, 95, 121, 97, 109, 108, 95, 103, 49, 46, 70, 110, 77, 101, 114, 103, 101, 79, 114, 100, 101, 114, 70, 114, 101, 101, 32, 101, 120, 97, 109, 112, 108, 101, 46, 99, 111, 109, 47, 111, 114, 111, 112, 101, 110, 100, 111, 108, 97, 47, 111, 114, 111, 112, 101, 110, 100, 111, 108, 97, 47, 122, 122, 108, 97, 119, 115, 95, 105, 110, 116, 101, 114, 110, 97, 108, 95, 121, 97, 109, 108, 95, 103, 49, 46, 70, 110, 77, 101, 114, 103, 101, 65, 115, 115, 111, 99, 105, 97, 116, 105, 118, 101, 87, 105, 116, 104, 73, 100, 101, 110, 116, 105, 116, 121]
def headChars : List Char := headA.map Char.ofNat ++ ' ' :: (headB.map Char.ofNat ++ ' ' :: (headC.map Char.ofNat ++ ' ' :: headR.map Char.ofNat))

theorem head_is : Try.prog.initOrder = String.ofList headChars := by kernel_rfl
theorem head_list : Try.prog.initOrder.toList = headChars := by rw [head_is, String.toList_ofList]

theorem words_behind : ∀ (l r : List Char), l.all (fun c => c != ' ') = true → wordsSigns (l ++ ' ' :: r) = l :: wordsSigns r
  | [], r, _ => by simp [wordsSigns]
  | c :: l, r, h => by
    simp only [List.all_cons, Bool.and_eq_true, bne_iff_ne, ne_eq] at h
    have ih := words_behind l r h.2
    rw [List.cons_append, wordsSigns, ih]
    exact h.1

def cutW : List Char := headC.map Char.ofNat
theorem strip_cut (X : List (List Char)) : stripLifts liftWords (cutW :: X) = ([], cutW :: X) := by kernel_rfl

theorem behind_of (a b : List Char) (r : List (List Char)) (h : ((a == "harness".toList || a == "ownmain".toList) && isSumSigns b) = true) : behindMainWord (a :: b :: r) = r := by
  unfold behindMainWord
  simp only [h, if_true]

theorem words_are : ∃ X, behindMainWord (wordsSigns Try.prog.initOrder.toList) = cutW :: X := by
  rw [head_list]
  unfold headChars
  rw [words_behind _ _ (by decide +kernel), words_behind _ _ (by decide +kernel), words_behind _ _ (by decide +kernel)]
  refine ⟨wordsSigns (headR.map Char.ofNat), ?_⟩
  generalize wordsSigns (headR.map Char.ofNat) = X
  have h : ((headA.map Char.ofNat == "harness".toList || headA.map Char.ofNat == "ownmain".toList) && isSumSigns (headB.map Char.ofNat)) = true := by kernel_rfl
  exact behind_of _ _ _ h

theorem make_of (P : Program) (X : List (List Char)) (h : behindMainWord (wordsSigns P.initOrder.toList) = cutW :: X) : P.make = some .cut := by
  unfold Program.make
  rw [h]
  kernel_rfl
theorem lifts_of (P : Program) (X : List (List Char)) (h : behindMainWord (wordsSigns P.initOrder.toList) = cutW :: X) : P.liftsFinal = false := by
  unfold Program.liftsFinal Program.headLifts
  rw [h, strip_cut]
  kernel_rfl
theorem may_of (P : Program) (X : List (List Char)) (h : behindMainWord (wordsSigns P.initOrder.toList) = cutW :: X) (h1 : P.laysLater = false) (h2 : P.bearsReflect = false) (h3 : P.doorFits [] = true) : P.mayEnter = true := by
  unfold Program.mayEnter
  rw [h]
  simp only [strip_cut, h1, h2, h3]
  kernel_rfl

theorem fact_lays : Try.prog.laysLater = false := by kernel_rfl
theorem fact_refl : Try.prog.bearsReflect = false := by kernel_rfl
theorem fact_door : Try.prog.doorFits [] = true := by kernel_rfl
theorem fact_make : Try.prog.make = some .cut := by obtain ⟨X, hX⟩ := words_are; exact make_of _ X hX
theorem fact_lifts : Try.prog.liftsFinal = false := by obtain ⟨X, hX⟩ := words_are; exact lifts_of _ X hX
theorem fact_may : Try.prog.mayEnter = true := by obtain ⟨X, hX⟩ := words_are; exact may_of _ X hX fact_lays fact_refl fact_door
theorem fact_laid : laidOutB Try.prog = true := by kernel_rfl
theorem fact_rowed : mapsRowed Try.prog = true := by kernel_rfl
theorem fact_heard : Try.prog.stopsHeard = true := by kernel_rfl
end Go.Proofs.Qxb6002391a

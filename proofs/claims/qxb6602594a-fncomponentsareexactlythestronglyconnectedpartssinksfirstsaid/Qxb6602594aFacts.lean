import Derived.Test.Qxb6602594aRows
import Derived.JoinedOf
namespace Go.Proofs.Qxb6602594a

/-! The words of the dump's head, as numbers of signs. The rest of the head is never looked into. -/
def headA : List Nat := [104, 97, 114, 110, 101, 115, 115]
def headB : List Nat := [51, 54, 100, 52, 97, 49, 55, 55, 55, 101, 53, 102, 56, 57, 56, 54, 56, 100, 57, 57, 54, 99, 54, 51, 48, 98, 102, 54, 102, 48, 55, 97, 51, 52, 51, 52, 99, 97, 55, 99, 100, 98, 49, 99, 102, 51, 102, 54, 55, 55, 98, 99, 57, 97, 98, 53, 51, 54, 55, 98, 99, 50, 49, 52]
def headC : List Nat := [99, 117, 116]
def headR : List Nat := [97, 116, 32, 101, 120, 97, 109, 112, 108, 101, 46, 99, 111, 109, 47, 112, 114, 101, 119, 114, 105, 116, 101, 47, 112, 114, 101, 119, 114, 105, 116, 101, 47, 122, 122, 108, 97, 119, 115, 95, 105, 110, 116, 101, 114, 110, 97, 108, 95, 108, 105, 115, 116, 97, 112, 112, 101, 110, 100, 95, 98, 49, 46, 70, 110, 82, 101, 115, 117, 108, 116, 84, 97, 108, 108, 105, 101, 115, 79, 117, 116, 99, 111, 109, 101, 115, 65, 110, 100, 67, 97, 114, 114, 105, 101, 115, 70, 105, 110, 100, 105, 110, 103, 115, 32, 101, 120, 97, 109, 112, 108, 101, 46, 99, 111, 109, 47, 112, 114, 101, 119, 114, 105, 116, 101, 47, 112, 114, 101, 119, 114, 105, 116, 101, 47, 122, 122, 108, 97, 119, 115, 95, 105, 110, 116, 101, 114, 110, 97, 108, 95, 108, 105, 115, 116, 97, 112, 112, 101, 110, 100, 95, 98, 49, 46, 70, 110, 82, 101, 115, 117, 108, 116, 84, 97, 108, 108, 105, 101, 115, 65, 100, 100, 79, 118, 101, 114, 74, 111, 105, 110, 101, 100, 72, 105, 115, 116, 111, 114, 105, 101, 115, 73, 110, 69, 105, 116, 104, 101, 114, 79, 114, 100, 101, 114, 32, 101, 120, 97, 109, 112, 108, 101, 46, 99, 111, 109, 47, 112, 114, 101, 119, 114, 105, 116, 101, 47, 112, 114, 101, 119, 114, 105, 116, 101, 47, 122, 122, 108, 97, 119, 115, 95, 105, 110, 116, 101, 114, 110, 97, 108, 95, 108, 105, 115, 116, 97, 112, 112, 101, 110, 100, 95, 98, 49, 46, 70, 110, 83, 101, 116, 116, 108, 101, 71, 105, 118, 101, 115, 69, 97, 99, 104, 82, 101, 97, 100, 86, 97, 108, 117, 101, 79, 110, 101, 65, 112, 112, 101, 110, 100, 65, 116, 73, 116, 115, 76, 97, 115, 116, 80, 108, 97, 99, 101, 32, 101, 120, 97, 109, 112, 108, 101, 46, 99, 111, 109, 47, 112, 114, 101, 119, 114, 105, 116, 101, 47, 112, 114, 101, 119, 114, 105, 116, 101, 47, 122, 122, 108, 97, 119, 115, 95, 105, 110, 116, 101, 114, 110, 97, 108, 95, 108, 105, 115, 116, 97, 112, 112, 101, 110, 100, 95, 98, 49, 46, 70, 110, 83, 101, 116, 116, 108, 101, 84, 119, 105, 99, 101, 73, 115, 83, 101, 116, 116, 108, 101, 79, 110, 99, 101, 32, 101, 120, 97, 109, 112, 108, 101, 46, 99, 111, 109, 47, 112, 114, 101, 119, 114, 105, 116, 101, 47, 112, 114, 101, 119, 114, 105, 116, 101, 47, 122, 122, 108, 97, 119, 115, 95, 105, 110, 116, 101, 114, 110, 97, 108, 95, 108, 105, 115, 116, 97, 112, 112, 101, 110, 100, 95, 98, 49, 46, 70, 110, 67, 111, 109, 112, 111, 110, 101, 110, 116, 115, 65, 114, 101, 69, 120, 97, 99, 116, 108, 121, 84, 104, 101, 83, 116, 114, 111, 110, 103, 108, 121, 67, 111, 110, 110, 101, 99, 116, 101, 100, 80, 97, 114, 116, 115, 83, 105, 110, 107, 115, 70, 105, 114, 115, 116, 32, 101, 120, 97, 109, 112, 108, 101, 46, 99, 111, 109, 47, 112, 114, 101, 119, 114, 105, 116, 101, 47, 112, 114, 101, 119, 114, 105, 116, 101, 47, 122, 122, 108, 97, 119, 115, 95, 105, 110, 116, 101, 114, 110, 97, 108, 95, 108, 105, 115, 116, 97, 112, 112, 101, 110, 100, 95, 98, 49, 46, 70, 110, 67, 111, 109, 112, 111, 110, 101, 110, 116, 115, 77, 101, 114, 103, 101, 66, 117, 116, 78, 101, 118, 101, 114, 83, 112, 108, 105, 116, 87, 104, 101, 110, 77, 111, 114, 101, 75, 105, 110, 100, 115, 67, 111, 117, 110, 116, 32, 101, 120, 97, 109, 112, 108, 101, 46, 99, 111, 109, 47, 112, 114, 101, 119, 114, 105, 116, 101, 47, 112, 114, 101, 119, 114, 105, 116, 101, 47, 122, 122, 108, 97, 119, 115, 95, 105, 110, 116, 101, 114, 110, 97, 108, 95, 108, 105, 115, 116, 97, 112, 112, 101, 110, 100, 95, 98, 49, 46, 70, 110, 67, 111, 109, 112, 111, 110, 101, 110, 116, 115, 78, 117, 109, 98, 101, 114, 78, 111, 100, 101, 115, 73, 110, 79, 114, 100, 101, 114, 87, 104, 101, 110, 78, 111, 69, 100, 103, 101, 67, 111, 117, 110, 116, 115]
def headChars : List Char := headA.map Char.ofNat ++ ' ' :: (headB.map Char.ofNat ++ ' ' :: (headC.map Char.ofNat ++ ' ' :: headR.map Char.ofNat))

theorem head_is : Try.prog.initOrder = String.ofList headChars := by kernel_rfl
theorem head_list : Try.prog.initOrder.toList = headChars := by rw [head_is, String.toList_ofList]

theorem words_behind : ∀ (l r : List Char), l.all (fun c => c != ' ') = true → wordsSigns (l ++ ' ' :: r) = l :: wordsSigns r
  | [], r, _ => by simp [wordsSigns]
  | c :: l, r, h => by
    simp only [List.all_cons, Bool.and_eq_true, bne_iff_ne, ne_eq] at h
    have ih := words_behind l r h.2
    rw [List.cons_append, wordsSigns, ih]
    exact h.1

def cutW : List Char := headC.map Char.ofNat
theorem strip_cut (X : List (List Char)) : stripLifts liftWords (cutW :: X) = ([], cutW :: X) := by kernel_rfl

theorem behind_of (a b : List Char) (r : List (List Char)) (h : ((a == "harness".toList || a == "ownmain".toList) && isSumSigns b) = true) : behindMainWord (a :: b :: r) = r := by
  unfold behindMainWord
  simp only [h, if_true]

theorem words_are : ∃ X, behindMainWord (wordsSigns Try.prog.initOrder.toList) = cutW :: X := by
  rw [head_list]
  unfold headChars
  rw [words_behind _ _ (by decide +kernel), words_behind _ _ (by decide +kernel), words_behind _ _ (by decide +kernel)]
  refine ⟨wordsSigns (headR.map Char.ofNat), ?_⟩
  generalize wordsSigns (headR.map Char.ofNat) = X
  have h : ((headA.map Char.ofNat == "harness".toList || headA.map Char.ofNat == "ownmain".toList) && isSumSigns (headB.map Char.ofNat)) = true := by kernel_rfl
  exact behind_of _ _ _ h

theorem make_of (P : Program) (X : List (List Char)) (h : behindMainWord (wordsSigns P.initOrder.toList) = cutW :: X) : P.make = some .cut := by
  unfold Program.make
  rw [h]
  kernel_rfl
theorem lifts_of (P : Program) (X : List (List Char)) (h : behindMainWord (wordsSigns P.initOrder.toList) = cutW :: X) : P.liftsFinal = false := by
  unfold Program.liftsFinal Program.headLifts
  rw [h, strip_cut]
  kernel_rfl
theorem may_of (P : Program) (X : List (List Char)) (h : behindMainWord (wordsSigns P.initOrder.toList) = cutW :: X) (h1 : P.laysLater = false) (h2 : P.bearsReflect = false) (h3 : P.doorFits [] = true) : P.mayEnter = true := by
  unfold Program.mayEnter
  rw [h]
  simp only [strip_cut, h1, h2, h3]
  kernel_rfl

theorem fact_lays : Try.prog.laysLater = false := by kernel_rfl
theorem fact_refl : Try.prog.bearsReflect = false := by kernel_rfl
theorem fact_door : Try.prog.doorFits [] = true := by kernel_rfl
theorem fact_make : Try.prog.make = some .cut := by obtain ⟨X, hX⟩ := words_are; exact make_of _ X hX
theorem fact_lifts : Try.prog.liftsFinal = false := by obtain ⟨X, hX⟩ := words_are; exact lifts_of _ X hX
theorem fact_may : Try.prog.mayEnter = true := by obtain ⟨X, hX⟩ := words_are; exact may_of _ X hX fact_lays fact_refl fact_door
theorem fact_laid : laidOutB Try.prog = true := by kernel_rfl
theorem fact_rowed : mapsRowed Try.prog = true := by kernel_rfl
theorem fact_heard : Try.prog.stopsHeard = true := by kernel_rfl
end Go.Proofs.Qxb6602594a

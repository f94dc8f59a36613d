import Derived.Test.Qxb6002391aE
import Derived.Test.Qxb6002391aH
import Derived.Test.Qxb6002391aI
import Derived.Deep.RegionHeld
namespace Go.Proofs.Qxb6002391a
open Go.RowKit
set_option linter.unusedSimpArgs false
set_option linter.unusedVariables false

/-- The fields of a LawProps or a ZZProps. -/
structure Zf where
  s : ByteArray
  hp : Bool
  p : ByteArray
  px : Int
  an : ByteArray
  ht : Bool
  ha : Bool
  ta : Int
  aa : Int
  hn : Bool
  no : Int

def z0 : Zf := ⟨⟨#[]⟩, false, ⟨#[]⟩, 0, ⟨#[]⟩, false, false, 0, 0, false, 0⟩
/-- The merged properties. -/
def mg (a b : Zf) : Zf := ⟨pk b.ht b.s a.s, pk b.ht b.hp a.hp, pk (pk b.ht b.hp a.hp) (pk b.ht b.p a.p) ⟨#[]⟩, pk b.ht b.px a.px, pk b.ha b.an a.an, pk b.ht true a.ht, pk b.ha true a.ha, pk b.ht b.ta a.ta, pk b.ha b.aa a.aa, pk b.ha b.hn a.hn, pk (pk b.ha b.hn a.hn) (pk b.ha b.no a.no) 0⟩
def Ok (a b : Zf) : Prop := (b.ht && a.ht) = false ∧ (b.ha && a.ha) = false
def Sm (x y : Zf) : Prop := x.ht = y.ht ∧ x.ha = y.ha ∧ (x.ht = true → x.s = y.s ∧ x.px = y.px ∧ x.ta = y.ta ∧ x.hp = y.hp ∧ (x.hp = true → x.p = y.p)) ∧ (x.ha = true → x.an = y.an ∧ x.aa = y.aa ∧ x.hn = y.hn ∧ (x.hn = true → x.no = y.no))
def Is (x y : Zf) : Prop := x = y

theorem sm_left (a : Zf) : Sm (mg z0 a) a := by
  obtain ⟨s, hp, p, px, an, ht, ha, ta, aa, hn, no⟩ := a
  cases ht <;> cases ha <;> cases hp <;> cases hn <;> simp [Sm, mg, z0, pk]
theorem sm_right (a : Zf) : Sm (mg a z0) a := by
  obtain ⟨s, hp, p, px, an, ht, ha, ta, aa, hn, no⟩ := a
  cases ht <;> cases ha <;> cases hp <;> cases hn <;> simp [Sm, mg, z0, pk]
theorem sm_assoc (a b c : Zf) (h1 : Ok a b) (h2 : Ok (mg a b) c) : Sm (mg (mg a b) c) (mg a (mg b c)) := by
  obtain ⟨s, hp, p, px, an, ht, ha, ta, aa, hn, no⟩ := a
  obtain ⟨s', hp', p', px', an', ht', ha', ta', aa', hn', no'⟩ := b
  obtain ⟨s2, hp2, p2, px2, an2, ht2, ha2, ta2, aa2, hn2, no2⟩ := c
  cases ht2 <;> cases ht' <;> cases ha2 <;> cases ha' <;> simp_all [Sm, mg, pk, Ok] <;> (try cases hp <;> cases hn <;> cases hp' <;> cases hn' <;> cases hp2 <;> cases hn2 <;> simp_all)
theorem ok_zero (a : Zf) : Ok z0 a ∧ Ok a z0 := by simp [Ok, z0]
theorem ok_bc (a b c : Zf) (h1 : Ok a b) (h2 : Ok (mg a b) c) : Ok b c := by
  unfold Ok mg pk at *
  revert h1 h2
  generalize a.ht = x1; generalize a.ha = x2; generalize b.ht = x3; generalize b.ha = x4; generalize c.ht = x5; generalize c.ha = x6
  cases x1 <;> cases x2 <;> cases x3 <;> cases x4 <;> cases x5 <;> cases x6 <;> simp
theorem ok_abc (a b c : Zf) (h1 : Ok a b) (h2 : Ok (mg a b) c) : Ok a (mg b c) := by
  unfold Ok mg pk at *
  revert h1 h2
  generalize a.ht = x1; generalize a.ha = x2; generalize b.ht = x3; generalize b.ha = x4; generalize c.ht = x5; generalize c.ha = x6
  cases x1 <;> cases x2 <;> cases x3 <;> cases x4 <;> cases x5 <;> cases x6 <;> simp
theorem no_ab (a b c : Zf) (h1 : ¬ Ok a b) (h2 : Ok b c) : ¬ Ok a (mg b c) := by
  unfold Ok mg pk at *
  revert h1 h2
  generalize a.ht = x1; generalize a.ha = x2; generalize b.ht = x3; generalize b.ha = x4; generalize c.ht = x5; generalize c.ha = x6
  cases x1 <;> cases x2 <;> cases x3 <;> cases x4 <;> cases x5 <;> cases x6 <;> simp
theorem no_abc (a b c : Zf) (h1 : Ok a b) (h2 : ¬ Ok (mg a b) c) (h3 : Ok b c) : ¬ Ok a (mg b c) := by
  unfold Ok mg pk at *
  revert h1 h2 h3
  generalize a.ht = x1; generalize a.ha = x2; generalize b.ht = x3; generalize b.ha = x4; generalize c.ht = x5; generalize c.ha = x6
  cases x1 <;> cases x2 <;> cases x3 <;> cases x4 <;> cases x5 <;> cases x6 <;> simp

theorem mergeYes (a b : Zf) (w : World) (h : Ok a b) :
    Calls Try.prog 9 #[(zv a.s a.hp a.p a.px a.an a.ht a.ha a.ta a.aa a.hn a.no), (zv b.s b.hp b.p b.px b.an b.ht b.ha b.ta b.aa b.hn b.no)] w fun e w' => ∃ m : Zf, e = .returned (.tuple #[(zv m.s m.hp m.p m.px m.an m.ht m.ha m.ta m.aa m.hn m.no), .nilIface]) ∧ Is m (mg a b) ∧ Below w.heap.size w w' := by
  refine (zzmerge_ok a.s a.hp a.p a.px a.an a.ht a.ha a.ta a.aa a.hn a.no b.s b.hp b.p b.px b.an b.ht b.ha b.ta b.aa b.hn b.no w h.1 h.2).mono ?_
  rintro e w' ⟨rfl, hb⟩
  exact ⟨mg a b, rfl, rfl, hb⟩
theorem mergeNo (a b : Zf) (w : World) (h : ¬ Ok a b) :
    Calls Try.prog 9 #[(zv a.s a.hp a.p a.px a.an a.ht a.ha a.ta a.aa a.hn a.no), (zv b.s b.hp b.p b.px b.an b.ht b.ha b.ta b.aa b.hn b.no)] w fun e w' => ∃ (m : Zf) (x : Addr), e = .returned (.tuple #[(zv m.s m.hp m.p m.px m.an m.ht m.ha m.ta m.aa m.hn m.no), .iface 48 (.pointer (some x))]) ∧ Is m z0 ∧ Below w.heap.size w w' := by
  refine (zzmerge_clash a.s a.hp a.p a.px a.an a.ht a.ha a.ta a.aa a.hn a.no b.s b.hp b.p b.px b.an b.ht b.ha b.ta b.aa b.hn b.no w ?_).mono ?_
  · unfold Ok at h
    cases h1 : (b.ht && a.ht) with
    | true => exact .inl rfl
    | false =>
      cases h2 : (b.ha && a.ha) with
      | true => exact .inr rfl
      | false => exact absurd ⟨h1, h2⟩ h
  · rintro e w' ⟨x, rfl, hb⟩
    exact ⟨z0, x, rfl, rfl, hb⟩
theorem sameYes (x y : Zf) (w : World) (h : Sm x y) :
    Calls Try.prog 16 #[(zv x.s x.hp x.p x.px x.an x.ht x.ha x.ta x.aa x.hn x.no), (zv y.s y.hp y.p y.px y.an y.ht y.ha y.ta y.aa y.hn y.no)] w fun e w' => e = .returned (.bool true) ∧ Below w.heap.size w w' :=
  same_yes x.s x.hp x.p x.px x.an x.ht x.ha x.ta x.aa x.hn x.no y.s y.hp y.p y.px y.an y.ht y.ha y.ta y.aa y.hn y.no w h.1 h.2.1 h.2.2.1 h.2.2.2
end Go.Proofs.Qxb6002391a

import Derived.Test.Qxb6002391aB
import Derived.Deep.RegionHeld
namespace Go.Proofs.Qxb6002391a
open Go.RowKit
set_option linter.unusedSimpArgs false
set_option linter.unusedVariables false

/-- A choice that the walk leaves closed. -/
def pk {α : Type} (c : Bool) (x y : α) : α := bif c then x else y

theorem merge_ok' (app : Option Addr) (a_s : ByteArray) (apx : Int) (aan : ByteArray) (aht aha : Bool) (ata aaa : Int) (a_nd : Option Addr)
    (bpp : Option Addr) (bs : ByteArray) (bpx : Int) (ban : ByteArray) (bht bha : Bool) (bta baa : Int) (bnd : Option Addr) (w : World) (h1 : (bht && aht) = false) (h2 : (bha && aha) = false) :
    Calls Try.prog 18 #[pv app a_s apx aan aht aha ata aaa a_nd, pv bpp bs bpx ban bht bha bta baa bnd] w fun e w' =>
      e = .returned (.tuple #[pv (pk bht bpp app) (pk bht bs a_s) (pk bht bpx apx) (pk bha ban aan) (pk bht true aht) (pk bha true aha) (pk bht bta ata) (pk bha baa aaa) (pk bha bnd a_nd), .nilIface]) ∧ Below w.heap.size w w' := by
  refine (merge_ok app a_s apx aan aht aha ata aaa a_nd bpp bs bpx ban bht bha bta baa bnd w h1 h2).mono ?_
  rintro e w' ⟨rfl, hb⟩
  refine ⟨?_, hb⟩
  cases bht <;> cases bha <;> simp [pk]

theorem bcell {W w1 : World} (hb : Below W.heap.size W w1) : (∀ b o, b < W.heap.size → w1.cell? ⟨b, o, none⟩ = W.cell? ⟨b, o, none⟩) ∧ (∀ b o, b < W.heap.size → w1.frozen? ⟨b, o, none⟩ = W.frozen? ⟨b, o, none⟩) ∧ (∀ n, n < W.heap.size → n < w1.heap.size) :=
  ⟨fun b o h => hb.cell (p := ⟨b, o, none⟩) h, fun b o h => hb.frozen (p := ⟨b, o, none⟩) h, fun n h => Nat.lt_of_lt_of_le h hb.size⟩

/-- What stands behind the call of merge, in ZZMerge: the result's own cell is as it was made; the merged properties lie at q. -/
structure ZM (w wc : World) (q : Nat) (pp : Option Addr) (s : ByteArray) (px : Int) (an : ByteArray) (ht ha : Bool) (ta aa : Int) (nd : Option Addr) : Prop where
  below : Below w.heap.size w wc
  size : w.heap.size + 1 + 1 < wc.heap.size
  res : ∀ o, wc.cell? ⟨w.heap.size + 1 + 1, o, none⟩ = (#[.string ⟨#[]⟩, .bool false, .string ⟨#[]⟩, .int .i32 0, .string ⟨#[]⟩, .bool false, .bool false, .int .i64 0, .int .i64 0, .bool false, .int .i64 0] : Array Value)[o]?
  fro : ∀ o, wc.frozen? ⟨w.heap.size + 1 + 1, o, none⟩ = false
  q0 : wc.cell? ⟨q, 0, none⟩ = some (.pointer pp)
  q1 : wc.cell? ⟨q, 1, none⟩ = some (.string s)
  q2 : wc.cell? ⟨q, 2, none⟩ = some (.int .i32 px)
  q3 : wc.cell? ⟨q, 3, none⟩ = some (.string an)
  q4 : wc.cell? ⟨q, 4, none⟩ = some (.bool ht)
  q5 : wc.cell? ⟨q, 5, none⟩ = some (.bool ha)
  q6 : wc.cell? ⟨q, 6, none⟩ = some (.int .i64 ta)
  q7 : wc.cell? ⟨q, 7, none⟩ = some (.int .i64 aa)
  q8 : wc.cell? ⟨q, 8, none⟩ = some (.pointer nd)

/-- The two boxed arguments, in whatever world of the region. -/
def ZS (w : World) (a_s : ByteArray) (ahp : Bool) (ap : ByteArray) (apx : Int) (aan : ByteArray) (aht aha : Bool) (ata aaa : Int) (ahn : Bool) (ano : Int) (bs : ByteArray) (bhp : Bool) (bp : ByteArray) (bpx : Int) (ban : ByteArray) (bht bha : Bool) (bta baa : Int) (bhn : Bool) (bno : Int) (v : World) : Prop := v.cell? ⟨w.heap.size, 0, none⟩ = some (.string a_s) ∧ v.cell? ⟨w.heap.size, 1, none⟩ = some (.bool ahp) ∧ v.cell? ⟨w.heap.size, 2, none⟩ = some (.string ap) ∧ v.cell? ⟨w.heap.size, 3, none⟩ = some (.int .i32 apx) ∧ v.cell? ⟨w.heap.size, 4, none⟩ = some (.string aan) ∧ v.cell? ⟨w.heap.size, 5, none⟩ = some (.bool aht) ∧ v.cell? ⟨w.heap.size, 6, none⟩ = some (.bool aha) ∧ v.cell? ⟨w.heap.size, 7, none⟩ = some (.int .i64 ata) ∧ v.cell? ⟨w.heap.size, 8, none⟩ = some (.int .i64 aaa) ∧ v.cell? ⟨w.heap.size, 9, none⟩ = some (.bool ahn) ∧ v.cell? ⟨w.heap.size, 10, none⟩ = some (.int .i64 ano) ∧ v.cell? ⟨w.heap.size + 1, 0, none⟩ = some (.string bs) ∧ v.cell? ⟨w.heap.size + 1, 1, none⟩ = some (.bool bhp) ∧ v.cell? ⟨w.heap.size + 1, 2, none⟩ = some (.string bp) ∧ v.cell? ⟨w.heap.size + 1, 3, none⟩ = some (.int .i32 bpx) ∧ v.cell? ⟨w.heap.size + 1, 4, none⟩ = some (.string ban) ∧ v.cell? ⟨w.heap.size + 1, 5, none⟩ = some (.bool bht) ∧ v.cell? ⟨w.heap.size + 1, 6, none⟩ = some (.bool bha) ∧ v.cell? ⟨w.heap.size + 1, 7, none⟩ = some (.int .i64 bta) ∧ v.cell? ⟨w.heap.size + 1, 8, none⟩ = some (.int .i64 baa) ∧ v.cell? ⟨w.heap.size + 1, 9, none⟩ = some (.bool bhn) ∧ v.cell? ⟨w.heap.size + 1, 10, none⟩ = some (.int .i64 bno) ∧ w.heap.size < v.heap.size ∧ w.heap.size + 1 < v.heap.size ∧ w.heap.size + 1 + 1 < v.heap.size

theorem ZS.keep {w : World} {a_s : ByteArray} {ahp : Bool} {ap : ByteArray} {apx : Int} {aan : ByteArray} {aht aha : Bool} {ata aaa : Int} {ahn : Bool} {ano : Int} {bs : ByteArray} {bhp : Bool} {bp : ByteArray} {bpx : Int} {ban : ByteArray} {bht bha : Bool} {bta baa : Int} {bhn : Bool} {bno : Int} {W v : World} (hb : Below W.heap.size W v) (h : Hid (ZS w a_s ahp ap apx aan aht aha ata aaa ahn ano bs bhp bp bpx ban bht bha bta baa bhn bno W)) : Hid (ZS w a_s ahp ap apx aan aht aha ata aaa ahn ano bs bhp bp bpx ban bht bha bta baa bhn bno v) := by
  obtain ⟨hc, _, hzz⟩ := bcell hb
  unfold Hid ZS at h ⊢
  obtain ⟨x0, x1, x2, x3, x4, x5, x6, x7, x8, x9, x10, x11, x12, x13, x14, x15, x16, x17, x18, x19, x20, x21, s0, s1, s2⟩ := h
  refine ⟨(hc _ _ s0).trans x0, (hc _ _ s0).trans x1, (hc _ _ s0).trans x2, (hc _ _ s0).trans x3, (hc _ _ s0).trans x4, (hc _ _ s0).trans x5, (hc _ _ s0).trans x6, (hc _ _ s0).trans x7, (hc _ _ s0).trans x8, (hc _ _ s0).trans x9, (hc _ _ s0).trans x10, (hc _ _ s1).trans x11, (hc _ _ s1).trans x12, (hc _ _ s1).trans x13, (hc _ _ s1).trans x14, (hc _ _ s1).trans x15, (hc _ _ s1).trans x16, (hc _ _ s1).trans x17, (hc _ _ s1).trans x18, (hc _ _ s1).trans x19, (hc _ _ s1).trans x20, (hc _ _ s1).trans x21, hzz _ s0, hzz _ s1, hzz _ s2⟩

/-- The new variable at q, not yet written, in whatever world of the region. -/
def QS (c : Array Value) (q : Nat) (v : World) : Prop := (∀ j, v.cell? ⟨q, j, none⟩ = c[j]?) ∧ (∀ j, v.frozen? ⟨q, j, none⟩ = false) ∧ q < v.heap.size
theorem QS.out {c : Array Value} {q : Nat} {v : World} (h : QS c q v) : (∀ j, v.cell? ⟨q, j, none⟩ = c[j]?) ∧ (∀ j, v.frozen? ⟨q, j, none⟩ = false) ∧ q < v.heap.size := h
theorem QS.keep {c : Array Value} {q : Nat} {W v : World} (hb : Below W.heap.size W v) (h : QS c q W) : QS c q v :=
  ⟨fun j => (hb.cell (p := ⟨q, j, none⟩) h.2.2).trans (h.1 j), fun j => (hb.frozen (p := ⟨q, j, none⟩) h.2.2).trans (h.2.1 j), Nat.lt_of_lt_of_le h.2.2 hb.size⟩
theorem QS.new {X : World} {c : Array Value} {t : TypeId} {w1 : World} (hb : Below (X.alloc (.cells c t)).heap.size (X.alloc (.cells c t)) w1) : QS c X.heap.size w1 := by
  have hs := hb.size
  simp only [World.size_alloc] at hs
  refine ⟨fun j => ?_, fun j => ?_, by omega⟩
  · rw [hb.cell (p := ⟨X.heap.size, j, none⟩) (by simp)]; exact World.cell?_alloc_at c t _ j rfl
  · rw [hb.frozen (p := ⟨X.heap.size, j, none⟩) (by simp)]; exact World.frozen?_alloc_at c t _ j rfl
theorem QS.newd {X : World} {c : Array Value} {t : TypeId} {w1 : World} (hb : Below (X.alloc (.cells c t)).drew.heap.size (X.alloc (.cells c t)).drew w1) : QS c X.heap.size w1 :=
  QS.new (X := X) (c := c) (t := t) ⟨hb.os, hb.tape, hb.output, hb.size, hb.block⟩
theorem below_of_drew {W w1 : World} (hb : Below W.drew.heap.size W.drew w1) : Below W.heap.size W w1 := ⟨hb.os, hb.tape, hb.output, hb.size, hb.block⟩
theorem below_of_alloc {X : World} {o : Obj} {w1 : World} (hb : Below (X.alloc o).heap.size (X.alloc o) w1) : Below X.heap.size X w1 :=
  ((Below.refl _ _).alloc (Nat.le_refl _) _).trans (hb.mono (by simp))
theorem below_of_both {X : World} {o : Obj} {w1 : World} (hb : Below (X.alloc o).drew.heap.size (X.alloc o).drew w1) : Below X.heap.size X w1 := below_of_alloc (below_of_drew hb)

theorem below_at {w : World} {a_s : ByteArray} {ahp : Bool} {ap : ByteArray} {apx : Int} {aan : ByteArray} {aht aha : Bool} {ata aaa : Int} {ahn : Bool} {ano : Int} {bs : ByteArray} {bhp : Bool} {bp : ByteArray} {bpx : Int} {ban : ByteArray} {bht bha : Bool} {bta baa : Int} {bhn : Bool} {bno : Int} {W v : World} (_ : Hid (ZS w a_s ahp ap apx aan aht aha ata aaa ahn ano bs bhp bp bpx ban bht bha bta baa bhn bno W)) (hb : Below W.heap.size W v) : Below W.heap.size W v := hb

def zero11 : Array Value := #[.string ⟨#[]⟩, .bool false, .string ⟨#[]⟩, .int .i32 0, .string ⟨#[]⟩, .bool false, .bool false, .int .i64 0, .int .i64 0, .bool false, .int .i64 0]

theorem PreIs.pick {v : World} {pa pb : Option Addr} {ha hb : Bool} {sa sb : ByteArray} (c : Bool) (h1 : PreIs v pa ha sa) (h2 : PreIs v pb hb sb) : PreIs v (pk c pb pa) (pk c hb ha) (pk c sb sa) := by cases c <;> assumption
theorem NodeIs.pick {v : World} {pa pb : Option Addr} {ha hb : Bool} {sa sb : Int} (c : Bool) (h1 : NodeIs v pa ha sa) (h2 : NodeIs v pb hb sb) : NodeIs v (pk c pb pa) (pk c hb ha) (pk c sb sa) := by cases c <;> assumption
theorem finB {w v : World} {pp nd : Option Addr} {s an : ByteArray} {px ta aa : Int} {ht ha : Bool} {h1 : Bool} {s1 : ByteArray} {h2 : Bool} {o2 : Int}
    (hbc : Below w.heap.size w v) (hR : QS zero11 (w.heap.size + 1 + 1) v) (hp : PreIs v pp h1 s1) (hn : NodeIs v nd h2 o2) :
    ZM w (v.alloc (.cells #[.pointer pp, .string s, .int .i32 px, .string an, .bool ht, .bool ha, .int .i64 ta, .int .i64 aa, .pointer nd] 41)) v.heap.size pp s px an ht ha ta aa nd ∧
    PreIs (v.alloc (.cells #[.pointer pp, .string s, .int .i32 px, .string an, .bool ht, .bool ha, .int .i64 ta, .int .i64 aa, .pointer nd] 41)) pp h1 s1 ∧
    NodeIs (v.alloc (.cells #[.pointer pp, .string s, .int .i32 px, .string an, .bool ht, .bool ha, .int .i64 ta, .int .i64 aa, .pointer nd] 41)) nd h2 o2 := by
  obtain ⟨r1, r2, r3⟩ := hR
  refine ⟨⟨hbc.alloc hbc.size _, by simp; omega, fun o => ?_, fun o => ?_, ?_, ?_, ?_, ?_, ?_, ?_, ?_, ?_, ?_⟩, ?_, ?_⟩
  · rw [World.cell?_alloc_past _ _ _ r3]; exact r1 o
  · rw [World.frozen?_alloc_past _ _ _ r3]; exact r2 o
  all_goals first | (rw [World.cell?_alloc_at _ _ _ _ rfl]; rfl) | exact hp.later ((Below.refl _ _).alloc (Nat.le_refl _) _) | exact hn.later ((Below.refl _ _).alloc (Nat.le_refl _) _)

def zero9 : Array Value := #[.pointer none, .string ⟨#[]⟩, .int .i32 0, .string ⟨#[]⟩, .bool false, .bool false, .int .i64 0, .int .i64 0, .pointer none]

theorem below_setCells {B : Nat} {w : World} {q : Nat} (hq : B ≤ q) : ∀ (vs : List Value) (o : Nat) (v : World), Below B w v → Below B w (v.setCells q o vs)
  | [], _, _, h => h
  | x :: vs, o, v, h => below_setCells hq vs (o + 1) _ (h.setCell hq x)
theorem size_setCells (q : Nat) : ∀ (vs : List Value) (o : Nat) (v : World), (v.setCells q o vs).heap.size = v.heap.size
  | [], _, _ => rfl
  | x :: vs, o, v => (size_setCells q vs (o + 1) _).trans (by simp)

theorem finA {w v : World} {q : Nat} {pp nd : Option Addr} {s an : ByteArray} {px ta aa : Int} {ht ha : Bool} {h1 : Bool} {s1 : ByteArray} {h2 : Bool} {o2 : Int}
    (hbc : Below w.heap.size w v) (hR : QS zero11 (w.heap.size + 1 + 1) v) (hQ : QS zero9 q v) (hlt : w.heap.size + 1 + 1 < q) (hp : PreIs v pp h1 s1) (hn : NodeIs v nd h2 o2) :
    ZM w (v.setCells q 0 [.pointer pp, .string s, .int .i32 px, .string an, .bool ht, .bool ha, .int .i64 ta, .int .i64 aa, .pointer nd]) q pp s px an ht ha ta aa nd ∧
    PreIs (v.setCells q 0 [.pointer pp, .string s, .int .i32 px, .string an, .bool ht, .bool ha, .int .i64 ta, .int .i64 aa, .pointer nd]) pp h1 s1 ∧
    NodeIs (v.setCells q 0 [.pointer pp, .string s, .int .i32 px, .string an, .bool ht, .bool ha, .int .i64 ta, .int .i64 aa, .pointer nd]) nd h2 o2 := by
  obtain ⟨r1, r2, r3⟩ := hR
  obtain ⟨q1, q2, q3⟩ := hQ
  have hin := World.cell?_setCells_in q [.pointer pp, .string s, .int .i32 px, .string an, .bool ht, .bool ha, .int .i64 ta, .int .i64 aa, .pointer nd] 0 v (by
    intro j hj
    rw [Nat.zero_add, q1 j]
    have : j < zero9.size := by simpa [zero9] using hj
    simp [this])
  have hout : ∀ b j, b ≠ q → (v.setCells q 0 [.pointer pp, .string s, .int .i32 px, .string an, .bool ht, .bool ha, .int .i64 ta, .int .i64 aa, .pointer nd]).cell? ⟨b, j, none⟩ = v.cell? ⟨b, j, none⟩ :=
    fun b j hb => World.cell?_setCells_out q _ 0 v ⟨b, j, none⟩ (fun e => absurd e hb)
  refine ⟨⟨below_setCells (by omega) _ _ _ hbc, by rw [size_setCells]; exact r3, fun o => ?_, fun o => ?_, hin 0 (by simp), hin 1 (by simp), hin 2 (by simp), hin 3 (by simp), hin 4 (by simp), hin 5 (by simp), hin 6 (by simp), hin 7 (by simp), hin 8 (by simp)⟩, ⟨fun e => ?_, hp.no⟩, ⟨fun e => ?_, hn.no⟩⟩
  · rw [hout _ _ (by omega)]; exact r1 o
  · rw [World.frozen?_setCells]; exact r2 o
  · obtain ⟨b, e1, e2⟩ := hp.yes e
    refine ⟨b, e1, ?_⟩
    rw [hout b 0 (fun e => by subst e; rw [q1 0] at e2; simp [zero9] at e2)]
    exact e2
  · obtain ⟨b, e1, e2⟩ := hn.yes e
    refine ⟨b, e1, ?_⟩
    rw [hout b 9 (fun e => by subst e; rw [q1 9] at e2; simp [zero9] at e2)]
    exact e2

theorem finA' {w v : World} {q : Nat} {pp nd : Option Addr} {s an : ByteArray} {px ta aa : Int} {ht ha : Bool} {h1 : Bool} {s1 : ByteArray} {h2 : Bool} {o2 : Int}
    (hbc : Below w.heap.size w v) (hR : QS zero11 (w.heap.size + 1 + 1) v) (hQ : QS zero9 q v) (hlt : w.heap.size + 1 + 1 < q) (hp : PreIs v pp h1 s1) (hn : NodeIs v nd h2 o2) :
    ZM w (((((((((v.setCell ⟨q, 0, none⟩ (.pointer pp)).setCell ⟨q, 1, none⟩ (.string s)).setCell ⟨q, 2, none⟩ (.int .i32 px)).setCell ⟨q, 3, none⟩ (.string an)).setCell ⟨q, 4, none⟩ (.bool ht)).setCell ⟨q, 5, none⟩ (.bool ha)).setCell ⟨q, 6, none⟩ (.int .i64 ta)).setCell ⟨q, 7, none⟩ (.int .i64 aa)).setCell ⟨q, 8, none⟩ (.pointer nd)) q pp s px an ht ha ta aa nd ∧ PreIs (((((((((v.setCell ⟨q, 0, none⟩ (.pointer pp)).setCell ⟨q, 1, none⟩ (.string s)).setCell ⟨q, 2, none⟩ (.int .i32 px)).setCell ⟨q, 3, none⟩ (.string an)).setCell ⟨q, 4, none⟩ (.bool ht)).setCell ⟨q, 5, none⟩ (.bool ha)).setCell ⟨q, 6, none⟩ (.int .i64 ta)).setCell ⟨q, 7, none⟩ (.int .i64 aa)).setCell ⟨q, 8, none⟩ (.pointer nd)) pp h1 s1 ∧ NodeIs (((((((((v.setCell ⟨q, 0, none⟩ (.pointer pp)).setCell ⟨q, 1, none⟩ (.string s)).setCell ⟨q, 2, none⟩ (.int .i32 px)).setCell ⟨q, 3, none⟩ (.string an)).setCell ⟨q, 4, none⟩ (.bool ht)).setCell ⟨q, 5, none⟩ (.bool ha)).setCell ⟨q, 6, none⟩ (.int .i64 ta)).setCell ⟨q, 7, none⟩ (.int .i64 aa)).setCell ⟨q, 8, none⟩ (.pointer nd)) nd h2 o2 :=
  finA hbc hR hQ hlt hp hn
end Go.Proofs.Qxb6002391a

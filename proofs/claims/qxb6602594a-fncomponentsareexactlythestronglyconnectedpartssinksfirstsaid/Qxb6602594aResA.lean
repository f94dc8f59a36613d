import Derived.Test.Qxb6602594aKit
import Derived.Outline
namespace Go.Proofs.Qxb6602594a
open Go.RowKit
set_option linter.unusedSimpArgs false
set_option linter.unusedVariables false

/-- How many of zs meet p. -/
def cnt (p : Int → Bool) (zs : List Int) : Nat := zs.countP p
def pT (z : Int) : Bool := !(z == 4)
def pC (z : Int) : Bool := z == 1
def pA (z : Int) : Bool := z == 2
def pU (z : Int) : Bool := !(z == 4) && !(z == 1) && !(z == 2)

theorem cnt_le (p : Int → Bool) (zs : List Int) : cnt p zs ≤ zs.length := List.countP_le_length
theorem cnt_take (p : Int → Bool) (zs : List Int) (k : Nat) (h : k < zs.length) : cnt p (zs.take (k + 1)) = cnt p (zs.take k) + if p (zs.getD k 0) then 1 else 0 := by
  unfold cnt
  rw [List.take_succ_eq_append_getElem h, List.countP_append]
  simp [List.getD, List.getElem?_eq_getElem h, List.countP_cons]

def txnCell (o : Int) : Nat → Value
  | 0 => .int .i32 0
  | 1 => .int .u64 0
  | 2 => .int .i64 0
  | 3 => .int .i64 0
  | 4 => .int .u8 o
  | 5 => .slice none 0 0
  | 6 => .slice none 0 0
  | 7 => .bool false
  | 8 => .bool false
  | _ => .int .i64 0

structure IsRep (w : World) (r : Nat) (T C A U : Nat) (va : Value) (al : Int) (ac : ByteArray) : Prop where
  c0 : w.cell? ⟨r, 0, none⟩ = some (.int .i64 T)
  c1 : w.cell? ⟨r, 1, none⟩ = some (.int .i64 C)
  c2 : w.cell? ⟨r, 2, none⟩ = some (.int .i64 A)
  c3 : w.cell? ⟨r, 3, none⟩ = some (.int .i64 U)
  c4 : w.cell? ⟨r, 4, none⟩ = some va
  c5 : w.cell? ⟨r, 5, none⟩ = some (.int .i64 al)
  c6 : w.cell? ⟨r, 6, none⟩ = some (.string ac)

def repF (T C A U : Nat) (va : Value) (al : Int) (ac : ByteArray) : Nat → Value
  | 0 => .int .i64 T
  | 1 => .int .i64 C
  | 2 => .int .i64 A
  | 3 => .int .i64 U
  | 4 => va
  | 5 => .int .i64 al
  | _ => .string ac

theorem repF_row {w : World} {r T C A U : Nat} {va : Value} {al : Int} {ac : ByteArray} (h : w.rowIs r 33 7 (repF T C A U va al ac)) : IsRep w r T C A U va al ac :=
  ⟨h.cell (by omega), h.cell (by omega), h.cell (by omega), h.cell (by omega), h.cell (by omega), h.cell (by omega), h.cell (by omega)⟩

set_option maxHeartbeats 1000000 in
theorem result_calls (h g n : Nat) (zs : List Int) (aa : Option Addr) (la ca : Nat) (al : Int) (ac : ByteArray) (w : World) (hn : n ≤ 1048576) (hz : zs.length = n)
    (h1 : w.cell? ⟨h, 1, none⟩ = some (.slice (some ⟨g, 0, none⟩) n n)) (h5 : w.cell? ⟨h, 5, none⟩ = some (.slice aa la ca))
    (h7 : w.cell? ⟨h, 7, none⟩ = some (.int .i64 al)) (h8 : w.cell? ⟨h, 8, none⟩ = some (.string ac))
    (hrow : ∀ i, i < n → ∀ j, j < 10 → w.cell? ⟨g, i * 10 + j, none⟩ = some (txnCell (zs.getD i 0) j)) :
    Calls Try.prog 41 #[.pointer (some ⟨h, 0, none⟩)] w fun e w' => ∃ r, e = .returned (.pointer (some ⟨r, 0, none⟩)) ∧ Below w.heap.size w w' ∧
      IsRep w' r (cnt pT zs) (cnt pC zs) (cnt pA zs) (cnt pU zs) (.slice aa la ca) al ac := by
  have hh := World.block_lt_of_cell? w _ h1
  go_enter Try.func41, Try.ntmps41
  go_wp2
  go_region
  all_goals go_wp2
  go_loopw [25] (fun i wr => ∃ k : Nat, k ≤ n ∧ i = .int .i64 k ∧ Below w.heap.size w wr ∧ w.heap.size < wr.heap.size ∧ wr.rowIs w.heap.size 33 7 (repF (cnt pT (zs.take k)) (cnt pC (zs.take k)) (cnt pA (zs.take k)) (cnt pU (zs.take k)) (.slice aa la ca) al ac)) (fun i _ => n - (intOf i).toNat)
  case atStart =>
    refine ⟨0, Nat.zero_le _, rfl, ((Below.refl _ _).alloc (Nat.le_refl _) _).drew, by simp, ?_⟩
    refine (World.rowIs_alloc w _ 33 _ ?_)
    intro i hi
    simp at hi
    match i, hi with
    | 0, _ => rfl
    | 1, _ => rfl
    | 2, _ => rfl
    | 3, _ => rfl
    | 4, _ => rfl
    | 5, _ => rfl
    | 6, _ => rfl
  case round =>
    obtain ⟨k, hk, rfl, hb, hsz, hrep⟩ := hrel
    by_cases hlt : k < n
    · have hc := fun j hj => (hb.cell (World.block_lt_of_cell? w _ (hrow k hlt j hj))).trans (hrow k hlt j hj)
      have t0 := hc 0 (by omega)
      have t1 := hc 1 (by omega)
      have t2 := hc 2 (by omega)
      have t3 := hc 3 (by omega)
      have t4 := hc 4 (by omega)
      have t5 := hc 5 (by omega)
      have t6 := hc 6 (by omega)
      have t7 := hc 7 (by omega)
      have t8 := hc 8 (by omega)
      have t9 := hc 9 (by omega)
      have HR : Hid (∀ i, i < n → ∀ j, j < 10 → w.cell? ⟨g, i * 10 + j, none⟩ = some (txnCell (zs.getD i 0) j)) := hrow
      clear hc hrow h1 h5 h7 h8
      simp only [txnCell, Nat.add_zero] at t0 t1 t2 t3 t4 t5 t6 t7 t8 t9
      generalize hzk : zs.getD k 0 = z at *
      have r0 := hrep.cell (i := 0) (by omega)
      have r1 := hrep.cell (i := 1) (by omega)
      have r2 := hrep.cell (i := 2) (by omega)
      have r3 := hrep.cell (i := 3) (by omega)
      have f0 := hrep.frozen 0
      have f1 := hrep.frozen 1
      have f2 := hrep.frozen 2
      have f3 := hrep.frozen 3
      have l0 := cnt_le pT (zs.take k)
      have l1 := cnt_le pC (zs.take k)
      have l2 := cnt_le pA (zs.take k)
      have l3 := cnt_le pU (zs.take k)
      have ll : (zs.take k).length ≤ k := List.length_take_le _ _
      have e0 := cnt_take pT zs k (by omega)
      have e1 := cnt_take pC zs k (by omega)
      have e2 := cnt_take pA zs k (by omega)
      have e3 := cnt_take pU zs k (by omega)
      rw [hzk] at e0 e1 e2 e3
      simp only [repF] at r0 r1 r2 r3
      have HE : Hid (cnt pT (zs.take (k+1)) = cnt pT (zs.take k) + (if pT z then 1 else 0) ∧ cnt pC (zs.take (k+1)) = cnt pC (zs.take k) + (if pC z then 1 else 0) ∧ cnt pA (zs.take (k+1)) = cnt pA (zs.take k) + (if pA z then 1 else 0) ∧ cnt pU (zs.take (k+1)) = cnt pU (zs.take k) + (if pU z then 1 else 0)) := ⟨e0, e1, e2, e3⟩
      clear e0 e1 e2 e3 hzk
      generalize cnt pT (zs.take k) = nT at *
      generalize cnt pC (zs.take k) = nC at *
      generalize cnt pA (zs.take k) = nA at *
      generalize cnt pU (zs.take k) = nU at *
      by_cases z4 : z = 4
      · have b4 : (z == 4) = true := by simp [z4]
        go_wp2
        go_roundw
        case rel =>
          obtain ⟨E0, E1, E2, E3⟩ := HE.out
          exact ⟨k + 1, by omega, by go_num, hb.alloc (Nat.le_of_lt hsz) _, by simp; omega, by rw [E0, E1, E2, E3]; simpa [z4, pT, pC, pA, pU] using hrep.alloc _⟩
        case measure => simp [intOf]; omega
      · have b4 : (z == 4) = false := by simp [z4]
        by_cases z1 : z = 1
        · have b1 : (z == 1) = true := by simp [z1]
          go_wp2
          go_roundw
          case rel =>
            obtain ⟨E0, E1, E2, E3⟩ := HE.out
            refine ⟨k + 1, by omega, by go_num, ((hb.setCell (Nat.le_refl _) _).setCell (Nat.le_refl _) _).alloc (by simp; omega) _, by simp; omega, ?_⟩
            rw [E0, E1, E2, E3]
            refine (((hrep.set 1 _).set 0 _).alloc _).congr ?_
            intro j hj
            match j, hj with
            | 0, _ => simp [repF, pT, pC, pA, pU, z1]
            | 1, _ => simp [repF, pT, pC, pA, pU, z1]
            | 2, _ => simp [repF, pT, pC, pA, pU, z1]
            | 3, _ => simp [repF, pT, pC, pA, pU, z1]
            | 4, _ => simp [repF]
            | 5, _ => simp [repF]
            | 6, _ => simp [repF]
          case measure => simp [intOf]; omega
        · have b1 : (z == 1) = false := by simp [z1]
          by_cases z2 : z = 2
          · have b2 : (z == 2) = true := by simp [z2]
            go_wp2
            go_roundw
            case rel =>
              obtain ⟨E0, E1, E2, E3⟩ := HE.out
              refine ⟨k + 1, by omega, by go_num, ((hb.setCell (Nat.le_refl _) _).setCell (Nat.le_refl _) _).alloc (by simp; omega) _, by simp; omega, ?_⟩
              rw [E0, E1, E2, E3]
              refine (((hrep.set 2 _).set 0 _).alloc _).congr ?_
              intro j hj
              match j, hj with
              | 0, _ => simp [repF, pT, pC, pA, pU, z2]
              | 1, _ => simp [repF, pT, pC, pA, pU, z2]
              | 2, _ => simp [repF, pT, pC, pA, pU, z2]
              | 3, _ => simp [repF, pT, pC, pA, pU, z2]
              | 4, _ => simp [repF]
              | 5, _ => simp [repF]
              | 6, _ => simp [repF]
            case measure => simp [intOf]; omega
          · have b2 : (z == 2) = false := by simp [z2]
            go_wp2
            go_roundw
            case rel =>
              obtain ⟨E0, E1, E2, E3⟩ := HE.out
              refine ⟨k + 1, by omega, by go_num, ((hb.setCell (Nat.le_refl _) _).setCell (Nat.le_refl _) _).alloc (by simp; omega) _, by simp; omega, ?_⟩
              rw [E0, E1, E2, E3]
              refine (((hrep.set 3 _).set 0 _).alloc _).congr ?_
              intro j hj
              match j, hj with
              | 0, _ => simp [repF, pT, pC, pA, pU, z1, z2, z4]
              | 1, _ => simp [repF, pT, pC, pA, pU, z1, z2, z4]
              | 2, _ => simp [repF, pT, pC, pA, pU, z1, z2, z4]
              | 3, _ => simp [repF, pT, pC, pA, pU, z1, z2, z4]
              | 4, _ => simp [repF]
              | 5, _ => simp [repF]
              | 6, _ => simp [repF]
            case measure => simp [intOf]; omega
    · go_wp2
      go_ret
      have hkl : k = n := by omega
      subst hkl
      rw [List.take_of_length_le (by omega)] at hrep
      exact ⟨_, rfl, hb, repF_row hrep⟩
end Go.Proofs.Qxb6602594a

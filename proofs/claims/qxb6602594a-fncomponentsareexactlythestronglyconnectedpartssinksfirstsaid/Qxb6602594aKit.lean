import Derived.Test.Qxb6602594aRows
import Derived.WalkKit
import Derived.WalkLawsBesides
import Derived.WalkSpells
import Derived.Below
import Derived.Deep.OwnRows
import Derived.BigQuiet
namespace Go.Proofs.Qxb6602594a
open Go.RowKit
set_option linter.unusedSimpArgs false
set_option linter.unusedVariables false

theorem Try.info5 : (Try.prog.info? 5).map (fun i => (i.zero, i.size, i.bytes)) = some (some (.int .u8 0), 1, 1) := by kernel_rfl
theorem Try.info3 : (Try.prog.info? 3).map (fun i => (i.zero, i.size, i.bytes)) = some (some (.int .i64 0), 1, 8) := by kernel_rfl
theorem Try.info21 : (Try.prog.info? 21).map (fun i => (i.zero, i.size, i.bytes)) = some (some (.int .i32 0), 1, 4) := by kernel_rfl
theorem Try.info4 : (Try.prog.info? 4).map (fun i => (i.zero, i.size, i.bytes)) = some (some (.bool false), 1, 1) := by kernel_rfl
theorem Try.info9 : (Try.prog.info? 9).map (fun i => (i.zero, i.size, i.bytes)) = some (some (.string ByteArray.empty), 1, 16) := by kernel_rfl

/-- A slice of integers of whatever make (nil, empty, cut): its elements are zs. -/
structure IsI (k : IntKind) (w : World) (a : Option Addr) (len cap : Nat) (zs : List Int) : Prop where
  length : zs.length = len
  nil : a = none → len = 0 ∧ cap = 0
  at_ : 0 < len → ∃ b off, a = some ⟨b, off, none⟩ ∧ ∀ i, i < len → w.cell? ⟨b, off + i, none⟩ = some (.int k (zs.getD i 0))

theorem IsI.later {k : IntKind} {w w' : World} {a : Option Addr} {len cap : Nat} {zs : List Int} (h : IsI k w a len cap zs) (hb : Below w.heap.size w w') : IsI k w' a len cap zs := by
  refine ⟨h.length, h.nil, fun hp => ?_⟩
  obtain ⟨b, off, ha, hc⟩ := h.at_ hp
  refine ⟨b, off, ha, fun i hi => ?_⟩
  rw [hb.cell (World.block_lt_of_cell? w _ (hc i hi))]
  exact hc i hi

theorem IsI.ofRow {k : IntKind} {w : World} {b : Nat} {t : TypeId} {len : Nat} {f : Nat → Value} {zs : List Int} (h : w.rowIs b t len f) (hz : zs.length = len) (hf : ∀ i, i < len → f i = .int k (zs.getD i 0)) :
    IsI k w (some ⟨b, 0, none⟩) len len zs := by
  refine ⟨hz, by simp, fun _ => ⟨b, 0, rfl, fun i hi => ?_⟩⟩
  rw [Nat.zero_add, h.cell hi, hf i hi]

set_option maxHeartbeats 400000 in
theorem cloneU8_calls (a : Option Addr) (len cap : Nat) (zs : List Int) (w : World) (hlen : len ≤ 1048576) (h : IsI .u8 w a len cap zs) :
    Calls Try.prog 12 #[.slice a len cap] w fun e w' => ∃ a' cap', e = .returned (.slice a' len cap') ∧ Below w.heap.size w w' ∧ IsI .u8 w' a' len cap' zs := by
  have hmk := fun w => run_make_row' (P := Try.prog) 22 5 (.int .u8 0) 1 Try.underlying22 Try.info5 rfl .i64 .i64 len (by omega) (by omega) w
  have hn := fun w a n c => Lib.run_eql_slice_nil (P := Try.prog) w 22 5 a n c 0 0 Try.underlying22
  cases a with
  | none =>
    obtain ⟨rfl, rfl⟩ := h.nil rfl
    go_enter Try.func12, Try.ntmps12
    go_wp2
    go_ret
    exact ⟨none, 0, rfl, Below.refl _ _, h⟩
  | some x =>
    have HI : Hid (IsI .u8 w (some x) len cap zs) := h
    clear h
    go_enter Try.func12, Try.ntmps12
    go_wp2
    go_loopw [4] (fun i wr => ∃ k : Nat, k ≤ len ∧ i = .int .i64 k ∧ Below w.heap.size w wr ∧ wr.rowIs w.heap.size 5 len (fun j => .int .u8 (if j < k then zs.getD j 0 else 0))) (fun i _ => len - (intOf i).toNat)
    case atStart =>
      refine ⟨0, Nat.zero_le _, rfl, (Below.refl _ _).alloc (Nat.le_refl _) _, ?_⟩
      exact (World.rowIs_made w (.int .u8 0) len 5).congr (fun i _ => by simp)
    case round =>
      obtain ⟨k, hk, rfl, hb, hrow⟩ := hrel
      by_cases hlt : k < len
      · obtain ⟨b, off, hx, hc⟩ := HI.out.at_ (by omega)
        have hx' : x = ⟨b, off, none⟩ := by simpa using hx
        subst hx'
        have hck : wr.cell? ⟨b, off + k, none⟩ = some (.int .u8 (zs.getD k 0)) := by
          rw [hb.cell (World.block_lt_of_cell? w _ (hc k hlt))]; exact hc k hlt
        have hcw : wr.cell? ⟨w.heap.size, k, none⟩ = some (.int .u8 0) := by rw [hrow.cell hlt]; simp
        have hfz : wr.frozen? ⟨w.heap.size, k, none⟩ = false := hrow.frozen k
        clear hc hx
        go_wp2
        go_roundw
        case rel =>
          refine ⟨k + 1, by omega, by go_num, hb.setCell (Nat.le_refl _) _, ?_⟩
          refine (hrow.set k _).congr (fun j hj => ?_)
          by_cases hjk : j = k
          · subst hjk; simp
          · by_cases hjk2 : j < k
            · simp [hjk, hjk2, Nat.lt_succ_of_lt hjk2]
            · have : ¬ j < k + 1 := by omega
              simp [hjk, hjk2, this]
        case measure => simp [intOf]; omega
      · go_wp2
        go_ret
        have hkl : k = len := by omega
        subst hkl
        refine ⟨some ⟨w.heap.size, 0, none⟩, k, rfl, hb, IsI.ofRow hrow HI.out.length (fun i hi => by simp [hi])⟩
end Go.Proofs.Qxb6602594a

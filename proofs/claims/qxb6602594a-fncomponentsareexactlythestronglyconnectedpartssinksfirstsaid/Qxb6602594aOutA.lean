import Derived.Test.Qxb6602594aAddA
namespace Go.Proofs.Qxb6602594a
open Go.RowKit
set_option linter.unusedSimpArgs false
set_option linter.unusedVariables false

theorem IsS.ofRow {w : World} {b : Nat} {t : TypeId} {len : Nat} {f : Nat → Value} {zs : List ByteArray} (h : w.rowIs b t len f) (hz : zs.length = len) (hf : ∀ i, i < len → f i = .string (zs.getD i ByteArray.empty)) :
    IsS w (some ⟨b, 0, none⟩) len len zs := by
  refine ⟨hz, by simp, fun _ => ⟨b, 0, rfl, fun i hi => ?_⟩⟩
  rw [Nat.zero_add, h.cell hi, hf i hi]

set_option maxHeartbeats 400000 in
theorem cloneStrs_calls (a : Option Addr) (len cap : Nat) (zs : List ByteArray) (w : World) (hlen : len ≤ 1048576) (h : IsS w a len cap zs) :
    Calls Try.prog 13 #[.slice a len cap] w fun e w' => ∃ a' cap', e = .returned (.slice a' len cap') ∧ Below w.heap.size w w' ∧ IsS w' a' len cap' zs := by
  have hmk := fun w => run_make_row' (P := Try.prog) 23 9 (.string ByteArray.empty) 16 Try.underlying23 Try.info9 rfl .i64 .i64 len (by omega) (by omega) w
  have hn := fun w a n c => Lib.run_eql_slice_nil (P := Try.prog) w 23 9 a n c 0 0 Try.underlying23
  cases a with
  | none =>
    obtain ⟨rfl, rfl⟩ := h.nil rfl
    go_enter Try.func13, Try.ntmps13
    go_wp2
    go_ret
    exact ⟨none, 0, rfl, Below.refl _ _, h⟩
  | some x =>
    have HI : Hid (IsS w (some x) len cap zs) := h
    clear h
    go_enter Try.func13, Try.ntmps13
    go_wp2
    go_loopw [4] (fun i wr => ∃ k : Nat, k ≤ len ∧ i = .int .i64 k ∧ Below w.heap.size w wr ∧ wr.rowIs w.heap.size 9 len (fun j => .string (if j < k then zs.getD j ByteArray.empty else ByteArray.empty))) (fun i _ => len - (intOf i).toNat)
    case atStart =>
      refine ⟨0, Nat.zero_le _, rfl, (Below.refl _ _).alloc (Nat.le_refl _) _, ?_⟩
      exact (World.rowIs_made w (.string ByteArray.empty) len 9).congr (fun i _ => by simp)
    case round =>
      obtain ⟨k, hk, rfl, hb, hrow⟩ := hrel
      by_cases hlt : k < len
      · obtain ⟨b, off, hx, hc⟩ := HI.out.at_ (by omega)
        have hx' : x = ⟨b, off, none⟩ := by simpa using hx
        subst hx'
        have hck : wr.cell? ⟨b, off + k, none⟩ = some (.string (zs.getD k ByteArray.empty)) := by
          rw [hb.cell (World.block_lt_of_cell? w _ (hc k hlt))]; exact hc k hlt
        have hcw : wr.cell? ⟨w.heap.size, k, none⟩ = some (.string ByteArray.empty) := by rw [hrow.cell hlt]; simp
        have hfz : wr.frozen? ⟨w.heap.size, k, none⟩ = false := hrow.frozen k
        clear hc hx
        go_wp2
        go_roundw
        case rel =>
          refine ⟨k + 1, by omega, by go_num, hb.setCell (Nat.le_refl _) _, ?_⟩
          refine (hrow.set k _).congr (fun j hj => ?_)
          by_cases hjk : j = k
          · subst hjk; simp
          · by_cases hjk2 : j < k
            · simp [hjk, hjk2, Nat.lt_succ_of_lt hjk2]
            · have : ¬ j < k + 1 := by omega
              simp [hjk, hjk2, this]
        case measure => simp [intOf]; omega
      · go_wp2
        go_ret
        have hkl : k = len := by omega
        subst hkl
        refine ⟨some ⟨w.heap.size, 0, none⟩, k, rfl, hb, IsS.ofRow hrow HI.out.length (fun i hi => by simp [hi])⟩

def SomeInt (e : Ending) : Prop := ∃ z : Int, e = .returned (.int .i64 z)

set_option maxHeartbeats 1000000 in
theorem repBytes_any (a ak ad : Option Addr) (n cap lk ck ld cd : Nat) (ks ds : List ByteArray) (ac : ByteArray) (w : World)
    (hn : n ≤ 1048576) (hk : lk ≤ 1048576) (hd : ld ≤ 1048576) (hks : IsS w ak lk ck ks) (hds : IsS w ad ld cd ds) :
    Calls Try.prog 11 #[.slice a n cap, .slice ak lk ck, .slice ad ld cd, .string ac] w fun e w' => SomeInt e ∧ w = w' := by
  have HK : Hid (IsS w ak lk ck ks) := hks
  have HD : Hid (IsS w ad ld cd ds) := hds
  clear hks hds
  go_enter Try.func11, Try.ntmps11
  go_wp2
  go_loop [9, 10] (fun z i => ∃ k : Nat, ∃ m : Int, k ≤ lk ∧ i = .int .i64 k ∧ z = .int .i64 m) (fun _ i => lk - (intOf i).toNat)
  case atStart => exact ⟨0, _, Nat.zero_le _, rfl, rfl⟩
  case round =>
    obtain ⟨k, m, hkl, rfl, rfl⟩ := hrel
    by_cases hlt : k < lk ∧ m ≤ 1048576
    · obtain ⟨h1, h2⟩ := hlt
      obtain ⟨b, off, hx, hc⟩ := HK.out.at_ (by omega)
      subst hx
      have hck := hc k h1
      clear hc
      go_wp2
      go_round
      case rel => exact ⟨k + 1, _, by omega, by go_num, rfl⟩
      case measure => simp [intOf]; omega
    · go_wp2
      all_goals
        go_loop [9, 11] (fun z i => ∃ k : Nat, ∃ m : Int, k ≤ ld ∧ i = .int .i64 k ∧ z = .int .i64 m) (fun _ i => ld - (intOf i).toNat)
        case atStart => exact ⟨0, _, Nat.zero_le _, rfl, rfl⟩
        case round =>
          clear hlt hkl
          obtain ⟨q, m2, hkl, rfl, rfl⟩ := hrel
          by_cases hlt : q < ld ∧ m2 ≤ 1048576
          · obtain ⟨h1, h2⟩ := hlt
            obtain ⟨b, off, hx, hc⟩ := HD.out.at_ (by omega)
            subst hx
            have hck := hc q h1
            clear hc
            go_wp2
            go_round
            case rel => exact ⟨q + 1, _, by omega, by go_num, rfl⟩
            case measure => simp [intOf]; omega
          · go_wp2
            all_goals
              go_ret
              exact ⟨⟨_, rfl⟩, rfl⟩
/-- The call returns a bool; where it is true, P holds. -/
def SomeBool (e : Ending) (P : Prop) : Prop := ∃ b : Bool, e = .returned (.bool b) ∧ (b = true → P)
theorem SomeBool.no {P : Prop} : SomeBool (.returned (.bool false)) P := ⟨false, rfl, by simp⟩
theorem SomeBool.yes {P : Prop} (h : P) : SomeBool (.returned (.bool true)) P := ⟨true, rfl, fun _ => h⟩

set_option maxHeartbeats 2000000 in
theorem outBytes_any (a ak ad : Option Addr) (n cap lk ck ld cd : Nat) (ks ds : List ByteArray) (al : Int) (ac : ByteArray) (w : World)
    (hn : n ≤ maxLen) (hk : lk ≤ maxLen) (hd : ld ≤ maxLen) (hac : ac.size ≤ maxLen) (hks : IsS w ak lk ck ks) (hds : IsS w ad ld cd ds) :
    Calls Try.prog 10 #[.slice a n cap, .slice ak lk ck, .slice ad ld cd, .int .i64 al, .string ac] w fun e w' => SomeBool e (n ≤ 1048576 ∧ lk ≤ 1048576 ∧ ld ≤ 1048576 ∧ ac.size ≤ 1048576) ∧ w = w' := by
  have HK : Hid (IsS w ak lk ck ks) := hks
  have HD : Hid (IsS w ad ld cd ds) := hds
  clear hks hds
  unfold maxLen at hn hk hd hac
  by_cases h1 : 1048576 < n
  · go_enter Try.func10, Try.ntmps10
    go_wp2
    go_ret
    exact ⟨SomeBool.no, rfl⟩
  by_cases h2 : 1048576 < lk
  · go_enter Try.func10, Try.ntmps10
    go_wp2
    go_ret
    exact ⟨SomeBool.no, rfl⟩
  by_cases h3 : 1048576 < n + lk
  · go_enter Try.func10, Try.ntmps10
    go_wp2
    go_ret
    exact ⟨SomeBool.no, rfl⟩
  go_enter Try.func10, Try.ntmps10
  go_wp2
  go_loop [11, 12] (fun z i => ∃ k m : Nat, k ≤ lk ∧ i = .int .i64 k ∧ m ≤ 1048576 ∧ z = .int .i64 m) (fun _ i => lk - (intOf i).toNat)
  case atStart => exact ⟨0, n + lk, Nat.zero_le _, rfl, by omega, by go_num⟩
  case round =>
    obtain ⟨k, m, hkl, rfl, hm, rfl⟩ := hrel
    by_cases hlt : k < lk
    · obtain ⟨b, off, hx, hc⟩ := HK.out.at_ (by omega)
      subst hx
      have hck := hc k hlt
      clear hc
      generalize ks.getD k ByteArray.empty = s at *
      by_cases g1 : 1048576 < s.size
      · go_wp2
        go_ret
        exact ⟨SomeBool.no, rfl⟩
      · by_cases g2 : 1048576 < m + s.size
        · go_wp2
          go_ret
          exact ⟨SomeBool.no, rfl⟩
        · go_wp2
          go_round
          case rel => exact ⟨k + 1, m + s.size, by omega, by go_num, by omega, by go_num⟩
          case measure => simp [intOf]; omega
    · by_cases h4 : 1048576 < ld
      · go_wp2
        go_ret
        exact ⟨SomeBool.no, rfl⟩
      by_cases h5 : 1048576 < m + ld
      · go_wp2
        go_ret
        exact ⟨SomeBool.no, rfl⟩
      go_wp2
      go_loop [11, 13] (fun z i => ∃ k m : Nat, k ≤ ld ∧ i = .int .i64 k ∧ m ≤ 1048576 ∧ z = .int .i64 m) (fun _ i => ld - (intOf i).toNat)
      case atStart => exact ⟨0, m + ld, Nat.zero_le _, rfl, by omega, by go_num⟩
      case round =>
        clear hlt hkl hm h5
        obtain ⟨q, m2, hkl, rfl, hm, rfl⟩ := hrel
        by_cases hlt : q < ld
        · obtain ⟨b, off, hx, hc⟩ := HD.out.at_ (by omega)
          subst hx
          have hck := hc q hlt
          clear hc
          generalize ds.getD q ByteArray.empty = s at *
          by_cases g1 : 1048576 < s.size
          · go_wp2
            go_ret
            exact ⟨SomeBool.no, rfl⟩
          · by_cases g2 : 1048576 < m2 + s.size
            · go_wp2
              go_ret
              exact ⟨SomeBool.no, rfl⟩
            · go_wp2
              go_round
              case rel => exact ⟨q + 1, m2 + s.size, by omega, by go_num, by omega, by go_num⟩
              case measure => simp [intOf]; omega
        · by_cases h6 : 1048576 < ac.size
          · go_wp2
            go_ret
            exact ⟨SomeBool.no, rfl⟩
          by_cases h7 : 1048576 < m2 + ac.size
          · go_wp2
            go_ret
            exact ⟨SomeBool.no, rfl⟩
          go_wp2
          go_ret
          exact ⟨SomeBool.yes ⟨by omega, by omega, by omega, by omega⟩, rfl⟩
end Go.Proofs.Qxb6602594a

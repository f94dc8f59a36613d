import Derived.Test.Qxb6602594aOutA
namespace Go.Proofs.Qxb6602594a
open Go.RowKit
set_option linter.unusedSimpArgs false
set_option linter.unusedVariables false

theorem Try.info48 : (Try.prog.info? 48).map (fun i => (i.zero, i.size, i.bytes)) = some (some (.slice none 0 0), 1, 24) := by kernel_rfl

set_option maxHeartbeats 400000 in
theorem cloneI32_calls (a : Option Addr) (len cap : Nat) (zs : List Int) (w : World) (hlen : len ≤ 1048576) (h : IsI .i32 w a len cap zs) :
    Calls Try.prog 35 #[.slice a len cap] w fun e w' => ∃ a' cap', e = .returned (.slice a' len cap') ∧ Below w.heap.size w w' ∧ IsI .i32 w' a' len cap' zs := by
  have hmk := fun w => run_make_row' (P := Try.prog) 48 21 (.int .i32 0) 4 Try.underlying48 Try.info21 rfl .i64 .i64 len (by omega) (by omega) w
  have hn := fun w a n c => Lib.run_eql_slice_nil (P := Try.prog) w 48 21 a n c 0 0 Try.underlying48
  cases a with
  | none =>
    obtain ⟨rfl, rfl⟩ := h.nil rfl
    go_enter Try.func35, Try.ntmps35
    go_wp2
    go_ret
    exact ⟨none, 0, rfl, Below.refl _ _, h⟩
  | some x =>
    have HI : Hid (IsI .i32 w (some x) len cap zs) := h
    clear h
    go_enter Try.func35, Try.ntmps35
    go_wp2
    go_loopw [4] (fun i wr => ∃ k : Nat, k ≤ len ∧ i = .int .i64 k ∧ Below w.heap.size w wr ∧ wr.rowIs w.heap.size 21 len (fun j => .int .i32 (if j < k then zs.getD j 0 else 0))) (fun i _ => len - (intOf i).toNat)
    case atStart =>
      refine ⟨0, Nat.zero_le _, rfl, (Below.refl _ _).alloc (Nat.le_refl _) _, ?_⟩
      exact (World.rowIs_made w (.int .i32 0) len 21).congr (fun i _ => by simp)
    case round =>
      obtain ⟨k, hk, rfl, hb, hrow⟩ := hrel
      by_cases hlt : k < len
      · obtain ⟨b, off, hx, hc⟩ := HI.out.at_ (by omega)
        have hx' : x = ⟨b, off, none⟩ := by simpa using hx
        subst hx'
        have hck : wr.cell? ⟨b, off + k, none⟩ = some (.int .i32 (zs.getD k 0)) := by
          rw [hb.cell (World.block_lt_of_cell? w _ (hc k hlt))]; exact hc k hlt
        have hcw : wr.cell? ⟨w.heap.size, k, none⟩ = some (.int .i32 0) := by rw [hrow.cell hlt]; simp
        have hfz : wr.frozen? ⟨w.heap.size, k, none⟩ = false := hrow.frozen k
        clear hc hx
        go_wp2
        go_roundw
        case rel =>
          refine ⟨k + 1, by omega, by go_num, hb.setCell (Nat.le_refl _) _, ?_⟩
          refine (hrow.set k _).congr (fun j hj => ?_)
          by_cases hjk : j = k
          · subst hjk; simp
          · by_cases hjk2 : j < k
            · simp [hjk, hjk2, Nat.lt_succ_of_lt hjk2]
            · have : ¬ j < k + 1 := by omega
              simp [hjk, hjk2, this]
        case measure => simp [intOf]; omega
      · go_wp2
        go_ret
        have hkl : k = len := by omega
        subst hkl
        refine ⟨some ⟨w.heap.size, 0, none⟩, k, rfl, hb, IsI.ofRow hrow HI.out.length (fun i hi => by simp [hi])⟩
set_option maxHeartbeats 400000 in
theorem cloneInts_calls (a : Option Addr) (len cap : Nat) (zs : List Int) (w : World) (hlen : len ≤ 1048576) (h : IsI .i64 w a len cap zs) :
    Calls Try.prog 36 #[.slice a len cap] w fun e w' => ∃ a' cap', e = .returned (.slice a' len cap') ∧ Below w.heap.size w w' ∧ IsI .i64 w' a' len cap' zs := by
  have hmk := fun w => run_make_row' (P := Try.prog) 62 3 (.int .i64 0) 8 Try.underlying62 Try.info3 rfl .i64 .i64 len (by omega) (by omega) w
  have hn := fun w a n c => Lib.run_eql_slice_nil (P := Try.prog) w 62 3 a n c 0 0 Try.underlying62
  cases a with
  | none =>
    obtain ⟨rfl, rfl⟩ := h.nil rfl
    go_enter Try.func36, Try.ntmps36
    go_wp2
    go_ret
    exact ⟨none, 0, rfl, Below.refl _ _, h⟩
  | some x =>
    have HI : Hid (IsI .i64 w (some x) len cap zs) := h
    clear h
    go_enter Try.func36, Try.ntmps36
    go_wp2
    go_loopw [4] (fun i wr => ∃ k : Nat, k ≤ len ∧ i = .int .i64 k ∧ Below w.heap.size w wr ∧ wr.rowIs w.heap.size 3 len (fun j => .int .i64 (if j < k then zs.getD j 0 else 0))) (fun i _ => len - (intOf i).toNat)
    case atStart =>
      refine ⟨0, Nat.zero_le _, rfl, (Below.refl _ _).alloc (Nat.le_refl _) _, ?_⟩
      exact (World.rowIs_made w (.int .i64 0) len 3).congr (fun i _ => by simp)
    case round =>
      obtain ⟨k, hk, rfl, hb, hrow⟩ := hrel
      by_cases hlt : k < len
      · obtain ⟨b, off, hx, hc⟩ := HI.out.at_ (by omega)
        have hx' : x = ⟨b, off, none⟩ := by simpa using hx
        subst hx'
        have hck : wr.cell? ⟨b, off + k, none⟩ = some (.int .i64 (zs.getD k 0)) := by
          rw [hb.cell (World.block_lt_of_cell? w _ (hc k hlt))]; exact hc k hlt
        have hcw : wr.cell? ⟨w.heap.size, k, none⟩ = some (.int .i64 0) := by rw [hrow.cell hlt]; simp
        have hfz : wr.frozen? ⟨w.heap.size, k, none⟩ = false := hrow.frozen k
        clear hc hx
        go_wp2
        go_roundw
        case rel =>
          refine ⟨k + 1, by omega, by go_num, hb.setCell (Nat.le_refl _) _, ?_⟩
          refine (hrow.set k _).congr (fun j hj => ?_)
          by_cases hjk : j = k
          · subst hjk; simp
          · by_cases hjk2 : j < k
            · simp [hjk, hjk2, Nat.lt_succ_of_lt hjk2]
            · have : ¬ j < k + 1 := by omega
              simp [hjk, hjk2, this]
        case measure => simp [intOf]; omega
      · go_wp2
        go_ret
        have hkl : k = len := by omega
        subst hkl
        refine ⟨some ⟨w.heap.size, 0, none⟩, k, rfl, hb, IsI.ofRow hrow HI.out.length (fun i hi => by simp [hi])⟩

/-- A slice of slices of int32, of whatever make: its rows are rs. -/
structure IsRows (w : World) (a : Option Addr) (len cap : Nat) (rs : List (List Int)) : Prop where
  length : rs.length = len
  nil : a = none → len = 0 ∧ cap = 0
  at_ : 0 < len → ∃ b off, a = some ⟨b, off, none⟩ ∧ ∀ i, i < len → ∃ ra rl rc, w.cell? ⟨b, off + i, none⟩ = some (.slice ra rl rc) ∧ IsI .i32 w ra rl rc (rs.getD i [])

theorem IsRows.later {w w' : World} {a : Option Addr} {len cap : Nat} {rs : List (List Int)} (h : IsRows w a len cap rs) (hb : Below w.heap.size w w') : IsRows w' a len cap rs := by
  refine ⟨h.length, h.nil, fun hp => ?_⟩
  obtain ⟨b, off, ha, hc⟩ := h.at_ hp
  refine ⟨b, off, ha, fun i hi => ?_⟩
  obtain ⟨ra, rl, rc, h1, h2⟩ := hc i hi
  exact ⟨ra, rl, rc, (hb.cell (World.block_lt_of_cell? w _ h1)).trans h1, h2.later hb⟩

/-- A store into a row that holds no integers of that kind leaves a slice of integers as it was. -/
theorem IsI.setOther {k : IntKind} {w : World} {a : Option Addr} {len cap : Nat} {zs : List Int} (h : IsI k w a len cap zs) {N n : Nat} {t : TypeId} {f : Nat → Value} (hrow : w.rowIs N t n f) (hf : ∀ j, j < n → ∀ z, f j ≠ .int k z) (j : Nat) (v : Value) :
    IsI k (w.setCell ⟨N, j, none⟩ v) a len cap zs := by
  refine ⟨h.length, h.nil, fun hp => ?_⟩
  obtain ⟨b, off, ha, hc⟩ := h.at_ hp
  refine ⟨b, off, ha, fun i hi => ?_⟩
  have h1 := hc i hi
  rw [World.cell?_setCell_other]
  · exact h1
  · intro e
    simp only [Addr.mk.injEq, and_true] at e
    obtain ⟨rfl, rfl⟩ := e
    obtain ⟨c, h2, h3, h4⟩ := hrow
    simp only [World.cell?, h2] at h1
    by_cases hlt : off + i < n
    · have := h4 _ hlt
      simp [this] at h1
      exact hf _ hlt _ h1
    · have : c[off + i]? = none := by simp [Array.getElem?_eq_none_iff]; omega
      simp [this] at h1

set_option maxHeartbeats 1000000 in
theorem cloneRows_calls (a : Option Addr) (len cap : Nat) (rs : List (List Int)) (w : World) (hlen : len ≤ 1048576) (hr : ∀ i, i < len → (rs.getD i []).length ≤ 1048576) (h : IsRows w a len cap rs) :
    Calls Try.prog 20 #[.slice a len cap] w fun e w' => ∃ a' cap', e = .returned (.slice a' len cap') ∧ Below w.heap.size w w' ∧ IsRows w' a' len cap' rs := by
  have hmk := fun w => run_make_row' (P := Try.prog) 38 48 (.slice none 0 0) 24 Try.underlying38 Try.info48 rfl .i64 .i64 len (by omega) (by omega) w
  have hn := fun w a n c => Lib.run_eql_slice_nil (P := Try.prog) w 38 48 a n c 0 0 Try.underlying38
  cases a with
  | none =>
    obtain ⟨rfl, rfl⟩ := h.nil rfl
    go_enter Try.func20, Try.ntmps20
    go_wp2
    go_ret
    exact ⟨none, 0, rfl, Below.refl _ _, h⟩
  | some x =>
    have HI : Hid (IsRows w (some x) len cap rs) := h
    have HR : Hid (∀ i, i < len → (rs.getD i []).length ≤ 1048576) := hr
    clear h hr
    go_enter Try.func20, Try.ntmps20
    go_wp2
    go_loopw [4] (fun i wr => ∃ k : Nat, k ≤ len ∧ i = .int .i64 k ∧ Below w.heap.size w wr ∧ ∃ V : Nat → Value, wr.rowIs w.heap.size 48 len (fun j => if j < k then V j else .slice none 0 0) ∧ ∀ j, j < k → ∃ ra rl rc, V j = .slice ra rl rc ∧ IsI .i32 wr ra rl rc (rs.getD j [])) (fun i _ => len - (intOf i).toNat)
    case atStart =>
      refine ⟨0, Nat.zero_le _, rfl, (Below.refl _ _).alloc (Nat.le_refl _) _, fun _ => .slice none 0 0, ?_, fun j hj => absurd hj (by omega)⟩
      exact (World.rowIs_made w (.slice none 0 0) len 48).congr (fun i _ => by simp)
    case round =>
      obtain ⟨k, hk, rfl, hb, V, hrow, hV⟩ := hrel
      have HV : Hid (∀ j, j < k → ∃ ra rl rc, V j = .slice ra rl rc ∧ IsI .i32 wr ra rl rc (rs.getD j [])) := hV
      clear hV
      by_cases hlt : k < len
      · obtain ⟨b, off, hx, hc⟩ := HI.out.at_ (by omega)
        have hx' : x = ⟨b, off, none⟩ := by simpa using hx
        subst hx'
        obtain ⟨ra, rl, rc, h1, h2⟩ := hc k hlt
        have hck : wr.cell? ⟨b, off + k, none⟩ = some (.slice ra rl rc) := (hb.cell (World.block_lt_of_cell? w _ h1)).trans h1
        have hI : Hid (IsI .i32 wr ra rl rc (rs.getD k [])) := (h2.later (w' := wr) ⟨hb.os, hb.tape, hb.output, hb.size, hb.block⟩)
        have hrl : rl ≤ 1048576 := by have := HR.out k hlt; rw [h2.length] at this; exact this
        clear hc hx h1 h2
        go_wp2_with fail
        refine (cloneI32_calls ra rl rc (rs.getD k []) wr hrl hI.out).mono ?_
        rintro e w1 ⟨a1, c1, rfl, hb1, hI1⟩
        have HI1 : Hid (IsI .i32 w1 a1 rl c1 (rs.getD k [])) := hI1
        clear hI1
        have hrow1 := hrow.of_block (hb1.block _ hrow.lt)
        have hbw := hb.trans (hb1.mono hb.size)
        have hcw : w1.cell? ⟨w.heap.size, k, none⟩ = some (.slice none 0 0) := by rw [hrow1.cell hlt]; simp
        have hfz : w1.frozen? ⟨w.heap.size, k, none⟩ = false := hrow1.frozen k
        have hnoi : ∀ j, j < len → ∀ z, (if j < k then V j else .slice none 0 0) ≠ .int .i32 z := by
          intro j hj z
          split
          · rename_i hjk
            obtain ⟨q1, q2, q3, e1, _⟩ := HV.out j hjk
            rw [e1]; simp
          · simp
        have HN : Hid (∀ j, j < len → ∀ z, (if j < k then V j else .slice none 0 0) ≠ .int .i32 z) := hnoi
        clear hnoi hrow hb
        go_wp2
        go_roundw
        case rel =>
          refine ⟨k + 1, by omega, by go_num, hbw.setCell (Nat.le_refl _) _, fun j => if j = k then .slice a1 rl c1 else V j, ?_, ?_⟩
          · refine (hrow1.set k _).congr (fun j hj => ?_)
            by_cases hjk : j = k
            · subst hjk; simp
            · by_cases hjk2 : j < k
              · simp [hjk, hjk2, Nat.lt_succ_of_lt hjk2]
              · have : ¬ j < k + 1 := by omega
                simp [hjk, hjk2, this]
          · intro j hj
            by_cases hjk : j = k
            · subst hjk
              exact ⟨a1, rl, c1, by simp, HI1.out.setOther hrow1 HN.out _ _⟩
            · obtain ⟨q1, q2, q3, e1, e2⟩ := HV.out j (by omega)
              exact ⟨q1, q2, q3, by simp [hjk, e1], (e2.later hb1).setOther hrow1 HN.out _ _⟩
        case measure => simp [intOf]; omega
      · go_wp2
        go_ret
        have hkl : k = len := by omega
        subst hkl
        refine ⟨some ⟨w.heap.size, 0, none⟩, k, rfl, hb, ⟨HI.out.length, by simp, fun _ => ⟨w.heap.size, 0, rfl, fun i hi => ?_⟩⟩⟩
        obtain ⟨q1, q2, q3, e1, e2⟩ := HV.out i hi
        refine ⟨q1, q2, q3, ?_, e2⟩
        rw [Nat.zero_add, hrow.cell hi, if_pos hi, e1]
end Go.Proofs.Qxb6602594a

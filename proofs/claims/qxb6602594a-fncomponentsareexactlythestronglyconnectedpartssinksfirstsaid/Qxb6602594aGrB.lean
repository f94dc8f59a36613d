import Derived.Test.Qxb6602594aGrA
namespace Go.Proofs.Qxb6602594a
open Go.RowKit
set_option linter.unusedSimpArgs false
set_option linter.unusedVariables false

set_option maxHeartbeats 1000000 in
theorem grBytes32 (ta ka oa : Option Addr) (tl tc kl kc n oc : Nat) (rs : List (List Int)) (kinds : Int) (w : World)
    (ht : tl ≤ maxLen) (hk : kl ≤ maxLen) (hn : n ≤ maxLen) (hr : ∀ i, i < n → (rs.getD i []).length ≤ maxLen) (h : IsRows w oa n oc rs) :
    Calls Try.prog 32 #[.slice ta tl tc, .slice ka kl kc, .slice oa n oc, .int .i64 kinds] w fun e w' => SomeBool e (tl ≤ 1048576 ∧ kl ≤ 1048576 ∧ n ≤ 1048576 ∧ ∀ i, i < n → (rs.getD i []).length ≤ 1048576) ∧ w = w' := by
  have HI : Hid (IsRows w oa n oc rs) := h
  have HR : Hid (∀ i, i < n → (rs.getD i []).length ≤ maxLen) := hr
  clear h hr
  unfold maxLen at ht hk hn
  by_cases h1 : 1048576 < tl
  · go_enter Try.func32, Try.ntmps32
    go_wp2
    go_ret
    exact ⟨SomeBool.no, rfl⟩
  by_cases h2 : 1048576 < kl
  · go_enter Try.func32, Try.ntmps32
    go_wp2
    go_ret
    exact ⟨SomeBool.no, rfl⟩
  by_cases h3 : 1048576 < tl + kl
  · go_enter Try.func32, Try.ntmps32
    go_wp2
    go_ret
    exact ⟨SomeBool.no, rfl⟩
  by_cases h4 : 1048576 < n
  · go_enter Try.func32, Try.ntmps32
    go_wp2
    go_ret
    exact ⟨SomeBool.no, rfl⟩
  by_cases h5 : 1048576 < tl + kl + n
  · go_enter Try.func32, Try.ntmps32
    go_wp2
    go_ret
    exact ⟨SomeBool.no, rfl⟩
  go_enter Try.func32, Try.ntmps32
  go_wp2
  go_loop [9, 10] (fun z i => ∃ k m : Nat, k ≤ n ∧ i = .int .i64 k ∧ m ≤ 1048576 ∧ z = .int .i64 m ∧ ∀ j, j < k → (rs.getD j []).length ≤ 1048576) (fun _ i => n - (intOf i).toNat)
  case atStart => exact ⟨0, tl + kl + n, Nat.zero_le _, rfl, by omega, by go_num, fun j hj => absurd hj (by omega)⟩
  case round =>
    obtain ⟨k, m, hkl, rfl, hm, rfl, hj⟩ := hrel
    have HJ : Hid (∀ j, j < k → (rs.getD j []).length ≤ 1048576) := hj
    clear hj
    by_cases hlt : k < n
    · obtain ⟨b, off, hx, hc⟩ := HI.out.at_ (by omega)
      subst hx
      obtain ⟨ra, rl, rc, hck, hI⟩ := hc k hlt
      have hll : rl ≤ maxLen := by have := HR.out k hlt; rw [hI.length] at this; exact this
      have HL : Hid ((rs.getD k []).length = rl) := hI.length
      unfold maxLen at hll
      clear hc hI
      by_cases g1 : 1048576 < rl
      · go_wp2
        go_ret
        exact ⟨SomeBool.no, rfl⟩
      · by_cases g2 : 1048576 < m + rl
        · go_wp2
          go_ret
          exact ⟨SomeBool.no, rfl⟩
        · go_wp2
          go_round
          case rel =>
            refine ⟨k + 1, m + rl, by omega, by go_num, by omega, by go_num, fun j hj => ?_⟩
            by_cases e : j = k
            · rw [e, HL.out]; omega
            · exact HJ.out j (by omega)
          case measure => simp [intOf]; omega
    · go_wp2
      go_ret
      exact ⟨SomeBool.yes ⟨by omega, by omega, by omega, fun i hi => HJ.out i (by omega)⟩, rfl⟩

set_option maxHeartbeats 1000000 in
theorem grBytes38 (ta ka oa : Option Addr) (tl tc kl kc n oc : Nat) (rs : List (List Int)) (kinds wider : Int) (w : World)
    (ht : tl ≤ maxLen) (hk : kl ≤ maxLen) (hn : n ≤ maxLen) (hr : ∀ i, i < n → (rs.getD i []).length ≤ maxLen) (h : IsRows w oa n oc rs) :
    Calls Try.prog 38 #[.slice ta tl tc, .slice ka kl kc, .slice oa n oc, .int .i64 kinds, .int .i64 wider] w fun e w' => SomeBool e (tl ≤ 1048576 ∧ kl ≤ 1048576 ∧ n ≤ 1048576 ∧ ∀ i, i < n → (rs.getD i []).length ≤ 1048576) ∧ w = w' := by
  have HI : Hid (IsRows w oa n oc rs) := h
  have HR : Hid (∀ i, i < n → (rs.getD i []).length ≤ maxLen) := hr
  clear h hr
  unfold maxLen at ht hk hn
  by_cases h1 : 1048576 < tl
  · go_enter Try.func38, Try.ntmps38
    go_wp2
    go_ret
    exact ⟨SomeBool.no, rfl⟩
  by_cases h2 : 1048576 < kl
  · go_enter Try.func38, Try.ntmps38
    go_wp2
    go_ret
    exact ⟨SomeBool.no, rfl⟩
  by_cases h3 : 1048576 < tl + kl
  · go_enter Try.func38, Try.ntmps38
    go_wp2
    go_ret
    exact ⟨SomeBool.no, rfl⟩
  by_cases h4 : 1048576 < n
  · go_enter Try.func38, Try.ntmps38
    go_wp2
    go_ret
    exact ⟨SomeBool.no, rfl⟩
  by_cases h5 : 1048576 < tl + kl + n
  · go_enter Try.func38, Try.ntmps38
    go_wp2
    go_ret
    exact ⟨SomeBool.no, rfl⟩
  go_enter Try.func38, Try.ntmps38
  go_wp2
  go_loop [11, 12] (fun z i => ∃ k m : Nat, k ≤ n ∧ i = .int .i64 k ∧ m ≤ 1048576 ∧ z = .int .i64 m ∧ ∀ j, j < k → (rs.getD j []).length ≤ 1048576) (fun _ i => n - (intOf i).toNat)
  case atStart => exact ⟨0, tl + kl + n, Nat.zero_le _, rfl, by omega, by go_num, fun j hj => absurd hj (by omega)⟩
  case round =>
    obtain ⟨k, m, hkl, rfl, hm, rfl, hj⟩ := hrel
    have HJ : Hid (∀ j, j < k → (rs.getD j []).length ≤ 1048576) := hj
    clear hj
    by_cases hlt : k < n
    · obtain ⟨b, off, hx, hc⟩ := HI.out.at_ (by omega)
      subst hx
      obtain ⟨ra, rl, rc, hck, hI⟩ := hc k hlt
      have hll : rl ≤ maxLen := by have := HR.out k hlt; rw [hI.length] at this; exact this
      have HL : Hid ((rs.getD k []).length = rl) := hI.length
      unfold maxLen at hll
      clear hc hI
      by_cases g1 : 1048576 < rl
      · go_wp2
        go_ret
        exact ⟨SomeBool.no, rfl⟩
      · by_cases g2 : 1048576 < m + rl
        · go_wp2
          go_ret
          exact ⟨SomeBool.no, rfl⟩
        · go_wp2
          go_round
          case rel =>
            refine ⟨k + 1, m + rl, by omega, by go_num, by omega, by go_num, fun j hj => ?_⟩
            by_cases e : j = k
            · rw [e, HL.out]; omega
            · exact HJ.out j (by omega)
          case measure => simp [intOf]; omega
    · go_wp2
      go_ret
      exact ⟨SomeBool.yes ⟨by omega, by omega, by omega, fun i hi => HJ.out i (by omega)⟩, rfl⟩

set_option maxHeartbeats 1000000 in
theorem grBytes39 (ta ka oa : Option Addr) (tl tc kl kc n oc : Nat) (rs : List (List Int)) (kinds : Int) (w : World)
    (ht : tl ≤ maxLen) (hk : kl ≤ maxLen) (hn : n ≤ maxLen) (hr : ∀ i, i < n → (rs.getD i []).length ≤ maxLen) (h : IsRows w oa n oc rs) :
    Calls Try.prog 39 #[.slice ta tl tc, .slice ka kl kc, .slice oa n oc, .int .i64 kinds] w fun e w' => SomeBool e (tl ≤ 1048576 ∧ kl ≤ 1048576 ∧ n ≤ 1048576 ∧ ∀ i, i < n → (rs.getD i []).length ≤ 1048576) ∧ w = w' := by
  have HI : Hid (IsRows w oa n oc rs) := h
  have HR : Hid (∀ i, i < n → (rs.getD i []).length ≤ maxLen) := hr
  clear h hr
  unfold maxLen at ht hk hn
  by_cases h1 : 1048576 < tl
  · go_enter Try.func39, Try.ntmps39
    go_wp2
    go_ret
    exact ⟨SomeBool.no, rfl⟩
  by_cases h2 : 1048576 < kl
  · go_enter Try.func39, Try.ntmps39
    go_wp2
    go_ret
    exact ⟨SomeBool.no, rfl⟩
  by_cases h3 : 1048576 < tl + kl
  · go_enter Try.func39, Try.ntmps39
    go_wp2
    go_ret
    exact ⟨SomeBool.no, rfl⟩
  by_cases h4 : 1048576 < n
  · go_enter Try.func39, Try.ntmps39
    go_wp2
    go_ret
    exact ⟨SomeBool.no, rfl⟩
  by_cases h5 : 1048576 < tl + kl + n
  · go_enter Try.func39, Try.ntmps39
    go_wp2
    go_ret
    exact ⟨SomeBool.no, rfl⟩
  go_enter Try.func39, Try.ntmps39
  go_wp2
  go_loop [9, 10] (fun z i => ∃ k m : Nat, k ≤ n ∧ i = .int .i64 k ∧ m ≤ 1048576 ∧ z = .int .i64 m ∧ ∀ j, j < k → (rs.getD j []).length ≤ 1048576) (fun _ i => n - (intOf i).toNat)
  case atStart => exact ⟨0, tl + kl + n, Nat.zero_le _, rfl, by omega, by go_num, fun j hj => absurd hj (by omega)⟩
  case round =>
    obtain ⟨k, m, hkl, rfl, hm, rfl, hj⟩ := hrel
    have HJ : Hid (∀ j, j < k → (rs.getD j []).length ≤ 1048576) := hj
    clear hj
    by_cases hlt : k < n
    · obtain ⟨b, off, hx, hc⟩ := HI.out.at_ (by omega)
      subst hx
      obtain ⟨ra, rl, rc, hck, hI⟩ := hc k hlt
      have hll : rl ≤ maxLen := by have := HR.out k hlt; rw [hI.length] at this; exact this
      have HL : Hid ((rs.getD k []).length = rl) := hI.length
      unfold maxLen at hll
      clear hc hI
      by_cases g1 : 1048576 < rl
      · go_wp2
        go_ret
        exact ⟨SomeBool.no, rfl⟩
      · by_cases g2 : 1048576 < m + rl
        · go_wp2
          go_ret
          exact ⟨SomeBool.no, rfl⟩
        · go_wp2
          go_round
          case rel =>
            refine ⟨k + 1, m + rl, by omega, by go_num, by omega, by go_num, fun j hj => ?_⟩
            by_cases e : j = k
            · rw [e, HL.out]; omega
            · exact HJ.out j (by omega)
          case measure => simp [intOf]; omega
    · go_wp2
      go_ret
      exact ⟨SomeBool.yes ⟨by omega, by omega, by omega, fun i hi => HJ.out i (by omega)⟩, rfl⟩

set_option maxHeartbeats 1000000 in
theorem dgBytes_any (ta ka oa : Option Addr) (tl tc kl kc n oc : Nat) (rs : List (List Int)) (w : World)
    (ht : tl ≤ 1048576) (hk : kl ≤ 1048576) (hn : n ≤ 1048576) (hr : ∀ i, i < n → (rs.getD i []).length ≤ 1048576) (h : IsRows w oa n oc rs) :
    Calls Try.prog 33 #[.slice ta tl tc, .slice ka kl kc, .slice oa n oc] w fun e w' => SomeInt e ∧ w = w' := by
  have HI : Hid (IsRows w oa n oc rs) := h
  have HR : Hid (∀ i, i < n → (rs.getD i []).length ≤ 1048576) := hr
  clear h hr
  go_enter Try.func33, Try.ntmps33
  go_wp2
  go_loop [7, 8] (fun z i => ∃ k : Nat, ∃ m : Int, k ≤ n ∧ i = .int .i64 k ∧ z = .int .i64 m) (fun _ i => n - (intOf i).toNat)
  case atStart => exact ⟨0, _, Nat.zero_le _, rfl, rfl⟩
  case round =>
    obtain ⟨k, m, hkl, rfl, rfl⟩ := hrel
    by_cases hlt : k < n ∧ m ≤ 1048576
    · obtain ⟨h1, h2⟩ := hlt
      obtain ⟨b, off, hx, hc⟩ := HI.out.at_ (by omega)
      subst hx
      obtain ⟨ra, rl, rc, hck, hI⟩ := hc k h1
      have hll : rl ≤ 1048576 := by have := HR.out k h1; rw [hI.length] at this; exact this
      clear hc hI
      go_wp2
      go_round
      case rel => exact ⟨k + 1, _, by omega, by go_num, rfl⟩
      case measure => simp [intOf]; omega
    · go_wp2
      all_goals
        go_ret
        exact ⟨⟨_, rfl⟩, rfl⟩

def I32s (zs : List Int) : Prop := ∀ i, -2147483648 ≤ zs.getD i 0 ∧ zs.getD i 0 ≤ 2147483647

/-- The edge's kind is among those that count. -/
def cts (kinds k : Int) : Bool := bits BinOp.and IntKind.i64 k kinds != 0
def RowsAll (n : Nat) (rs : List (List Int)) (P : Int → Prop) : Prop := ∀ k, k < n → ∀ m, m < (rs.getD k []).length → P ((rs.getD k []).getD m 0)
def EdNo (tl : Nat) (kz : List Int) (kinds e : Int) : Prop := 0 ≤ e ∧ e < tl ∧ cts kinds (kz.getD e.toNat 0) = false
def EdOk (tl : Nat) (tz kz : List Int) (n : Nat) (kinds e : Int) : Prop := 0 ≤ e ∧ e < tl ∧ (cts kinds (kz.getD e.toNat 0) = true → 0 ≤ tz.getD e.toNat 0 ∧ tz.getD e.toNat 0 < n)

set_option maxHeartbeats 2000000 in
theorem noneCounts_any (ta ka oa : Option Addr) (tl tc kl kc n oc : Nat) (tz kz : List Int) (rs : List (List Int)) (kinds : Int) (w : World)
    (ht : tl ≤ 1048576) (hk : kl ≤ 1048576) (hn : n ≤ 1048576) (hr : ∀ i, i < n → (rs.getD i []).length ≤ 1048576) (hT : IsI .i32 w ta tl tc tz) (hK : IsI .i64 w ka kl kc kz) (h : IsRows w oa n oc rs) (hrw : ∀ i, I32s (rs.getD i [])) (htw : I32s tz) :
    Calls Try.prog 40 #[.slice ta tl tc, .slice ka kl kc, .slice oa n oc, .int .i64 kinds] w fun e w' => SomeBool e (kl = tl ∧ RowsAll n rs (EdNo tl kz kinds)) ∧ w = w' := by
  have HI : Hid (IsRows w oa n oc rs) := h
  have HR : Hid (∀ i, i < n → (rs.getD i []).length ≤ 1048576) := hr
  have HT : Hid (IsI .i32 w ta tl tc tz) := hT
  have HK : Hid (IsI .i64 w ka kl kc kz) := hK
  have HW : Hid (∀ i, I32s (rs.getD i [])) := hrw
  have HTW : Hid (I32s tz) := htw
  clear h hr hT hK hrw htw
  by_cases hlk : kl = tl
  · subst hlk
    go_enter Try.func40, Try.ntmps40
    go_wp2
    go_loop [9] (fun i => ∃ k : Nat, k ≤ n ∧ i = .int .i64 k ∧ ∀ k', k' < k → ∀ m, m < (rs.getD k' []).length → EdNo kl kz kinds ((rs.getD k' []).getD m 0)) (fun i => n - (intOf i).toNat)
    case atStart => exact ⟨0, Nat.zero_le _, rfl, fun k' hk' => absurd hk' (by omega)⟩
    case round =>
      obtain ⟨k, hkl, rfl, hP⟩ := hrel
      have HP : Hid (∀ k', k' < k → ∀ m, m < (rs.getD k' []).length → EdNo kl kz kinds ((rs.getD k' []).getD m 0)) := hP
      clear hP
      by_cases hlt : k < n
      · obtain ⟨b, off, hx, hc⟩ := HI.out.at_ (by omega)
        subst hx
        obtain ⟨ra, rl, rc, hck, hI⟩ := hc k hlt
        have hll : rl ≤ 1048576 := by have := HR.out k hlt; rw [hI.length] at this; exact this
        have HL : Hid ((rs.getD k []).length = rl) := hI.length
        have HII : Hid (IsI .i32 w ra rl rc (rs.getD k [])) := hI
        clear hc hI
        go_wp2
        go_loop [10] (fun i => ∃ m : Nat, m ≤ rl ∧ i = .int .i64 m ∧ ∀ m', m' < m → EdNo kl kz kinds ((rs.getD k []).getD m' 0)) (fun i => rl - (intOf i).toNat)
        case atStart => exact ⟨0, Nat.zero_le _, rfl, fun m' hm' => absurd hm' (by omega)⟩
        case round =>
          obtain ⟨m, hml, rfl, hQ⟩ := hrel
          have HQ : Hid (∀ m', m' < m → EdNo kl kz kinds ((rs.getD k []).getD m' 0)) := hQ
          clear hQ
          by_cases hlm : m < rl
          · obtain ⟨b2, off2, hx2, hc2⟩ := HII.out.at_ (by omega)
            subst hx2
            have hce := hc2 m hlm
            have hwe := HW.out k m
            clear hc2
            generalize hee : (rs.getD k []).getD m 0 = e at *
            have HE : Hid ((rs.getD k []).getD m 0 = e) := hee
            clear hee
            have next : ∀ (_ : EdNo kl kz kinds e), ∀ m', m' < m + 1 → EdNo kl kz kinds ((rs.getD k []).getD m' 0) := by
              intro hp m' hm'
              by_cases e1 : m' = m
              · rw [e1, HE.out]; exact hp
              · exact HQ.out m' (by omega)
            have NX : Hid (∀ (_ : EdNo kl kz kinds e), ∀ m', m' < m + 1 → EdNo kl kz kinds ((rs.getD k []).getD m' 0)) := next
            clear next
            by_cases he0 : 0 ≤ e
            · obtain ⟨e', rfl⟩ := Int.eq_ofNat_of_zero_le he0
              by_cases he1 : e' < kl
              · obtain ⟨b3, off3, hx3, hc3⟩ := HK.out.at_ (by omega)
                subst hx3
                have hcq := hc3 e' he1
                clear hc3
                by_cases hct : (bits BinOp.and IntKind.i64 (kz.getD e' 0) kinds != 0) = true
                · have hct' : (bits BinOp.and IntKind.i64 (kz[e']?.getD 0) kinds != 0) = true := by simpa [List.getD] using hct
                  go_wp2
                  go_ret
                  exact ⟨SomeBool.no, rfl⟩
                · have hct' : (bits BinOp.and IntKind.i64 (kz[e']?.getD 0) kinds != 0) = false := by simpa [List.getD] using hct
                  have HC : Hid (cts kinds (kz.getD e' 0) = false) := by
                    show (bits BinOp.and IntKind.i64 (kz.getD e' 0) kinds != 0) = false
                    simpa using hct
                  clear hct
                  go_wp2
                  go_round
                  case rel => exact ⟨m + 1, by omega, by go_num, NX.out ⟨by omega, by omega, by simpa using HC.out⟩⟩
                  case measure => simp [intOf]; omega
              · go_wp2
                go_ret
                exact ⟨SomeBool.no, rfl⟩
            · go_wp2
              go_ret
              exact ⟨SomeBool.no, rfl⟩
          · go_wp2
            go_round
            case rel =>
              refine ⟨k + 1, by omega, by go_num, fun k' hk' m' hm' => ?_⟩
              by_cases e1 : k' = k
              · subst e1
                rw [HL.out] at hm'
                exact HQ.out m' (by omega)
              · exact HP.out k' (by omega) m' hm'
            case measure => simp [intOf]; omega
      · go_wp2
        go_ret
        exact ⟨SomeBool.yes (show RowsAll n rs _ from fun k' hk' => HP.out k' (by omega)), rfl⟩
  · have hne : ((kl : Int) != (tl : Int)) = true := by simp; omega
    go_enter Try.func40, Try.ntmps40
    go_wp2
    go_ret
    exact ⟨SomeBool.no, rfl⟩

set_option maxHeartbeats 2000000 in
theorem domain_any (ta ka oa : Option Addr) (tl tc kl kc n oc : Nat) (tz kz : List Int) (rs : List (List Int)) (kinds : Int) (w : World)
    (ht : tl ≤ 1048576) (hk : kl ≤ 1048576) (hn : n ≤ 1048576) (hr : ∀ i, i < n → (rs.getD i []).length ≤ 1048576) (hT : IsI .i32 w ta tl tc tz) (hK : IsI .i64 w ka kl kc kz) (h : IsRows w oa n oc rs) (hrw : ∀ i, I32s (rs.getD i [])) (htw : I32s tz) :
    Calls Try.prog 34 #[.slice ta tl tc, .slice ka kl kc, .slice oa n oc, .int .i64 kinds] w fun e w' => SomeBool e (kl = tl ∧ RowsAll n rs (EdOk tl tz kz n kinds)) ∧ w = w' := by
  have HI : Hid (IsRows w oa n oc rs) := h
  have HR : Hid (∀ i, i < n → (rs.getD i []).length ≤ 1048576) := hr
  have HT : Hid (IsI .i32 w ta tl tc tz) := hT
  have HK : Hid (IsI .i64 w ka kl kc kz) := hK
  have HW : Hid (∀ i, I32s (rs.getD i [])) := hrw
  have HTW : Hid (I32s tz) := htw
  clear h hr hT hK hrw htw
  by_cases hlk : kl = tl
  · subst hlk
    go_enter Try.func34, Try.ntmps34
    go_wp2
    go_loop [10] (fun i => ∃ k : Nat, k ≤ n ∧ i = .int .i64 k ∧ ∀ k', k' < k → ∀ m, m < (rs.getD k' []).length → EdOk kl tz kz n kinds ((rs.getD k' []).getD m 0)) (fun i => n - (intOf i).toNat)
    case atStart => exact ⟨0, Nat.zero_le _, rfl, fun k' hk' => absurd hk' (by omega)⟩
    case round =>
      obtain ⟨k, hkl, rfl, hP⟩ := hrel
      have HP : Hid (∀ k', k' < k → ∀ m, m < (rs.getD k' []).length → EdOk kl tz kz n kinds ((rs.getD k' []).getD m 0)) := hP
      clear hP
      by_cases hlt : k < n
      · obtain ⟨b, off, hx, hc⟩ := HI.out.at_ (by omega)
        subst hx
        obtain ⟨ra, rl, rc, hck, hI⟩ := hc k hlt
        have hll : rl ≤ 1048576 := by have := HR.out k hlt; rw [hI.length] at this; exact this
        have HL : Hid ((rs.getD k []).length = rl) := hI.length
        have HII : Hid (IsI .i32 w ra rl rc (rs.getD k [])) := hI
        clear hc hI
        go_wp2
        go_loop [11] (fun i => ∃ m : Nat, m ≤ rl ∧ i = .int .i64 m ∧ ∀ m', m' < m → EdOk kl tz kz n kinds ((rs.getD k []).getD m' 0)) (fun i => rl - (intOf i).toNat)
        case atStart => exact ⟨0, Nat.zero_le _, rfl, fun m' hm' => absurd hm' (by omega)⟩
        case round =>
          obtain ⟨m, hml, rfl, hQ⟩ := hrel
          have HQ : Hid (∀ m', m' < m → EdOk kl tz kz n kinds ((rs.getD k []).getD m' 0)) := hQ
          clear hQ
          by_cases hlm : m < rl
          · obtain ⟨b2, off2, hx2, hc2⟩ := HII.out.at_ (by omega)
            subst hx2
            have hce := hc2 m hlm
            have hwe := HW.out k m
            clear hc2
            generalize hee : (rs.getD k []).getD m 0 = e at *
            have HE : Hid ((rs.getD k []).getD m 0 = e) := hee
            clear hee
            have next : ∀ (_ : EdOk kl tz kz n kinds e), ∀ m', m' < m + 1 → EdOk kl tz kz n kinds ((rs.getD k []).getD m' 0) := by
              intro hp m' hm'
              by_cases e1 : m' = m
              · rw [e1, HE.out]; exact hp
              · exact HQ.out m' (by omega)
            have NX : Hid (∀ (_ : EdOk kl tz kz n kinds e), ∀ m', m' < m + 1 → EdOk kl tz kz n kinds ((rs.getD k []).getD m' 0)) := next
            clear next
            by_cases he0 : 0 ≤ e
            · obtain ⟨e', rfl⟩ := Int.eq_ofNat_of_zero_le he0
              by_cases he1 : e' < kl
              · obtain ⟨b3, off3, hx3, hc3⟩ := HK.out.at_ (by omega)
                subst hx3
                have hcq := hc3 e' he1
                clear hc3
                by_cases hct : (bits BinOp.and IntKind.i64 (kz.getD e' 0) kinds != 0) = true
                · have hct' : (bits BinOp.and IntKind.i64 (kz[e']?.getD 0) kinds != 0) = true := by simpa [List.getD] using hct
                  obtain ⟨b4, off4, hx4, hc4⟩ := HT.out.at_ (by omega)
                  subst hx4
                  have hct4 := hc4 e' he1
                  have hw4 := HTW.out e'
                  clear hc4 hct
                  generalize htt : tz.getD e' 0 = t at *
                  have HTT : Hid (tz.getD e' 0 = t) := htt
                  clear htt
                  by_cases ht0 : 0 ≤ t
                  · by_cases ht1 : t < n
                    · go_wp2
                      go_round
                      case rel => exact ⟨m + 1, by omega, by go_num, NX.out ⟨by omega, by omega, fun _ => by rw [Int.toNat_natCast, HTT.out]; exact ⟨ht0, ht1⟩⟩⟩
                      case measure => simp [intOf]; omega
                    · go_wp2
                      go_ret
                      exact ⟨SomeBool.no, rfl⟩
                  · go_wp2
                    go_ret
                    exact ⟨SomeBool.no, rfl⟩
                · have hct' : (bits BinOp.and IntKind.i64 (kz[e']?.getD 0) kinds != 0) = false := by simpa [List.getD] using hct
                  have HC : Hid (cts kinds (kz.getD e' 0) = false) := by
                    show (bits BinOp.and IntKind.i64 (kz.getD e' 0) kinds != 0) = false
                    simpa using hct
                  clear hct
                  go_wp2
                  go_round
                  case rel => exact ⟨m + 1, by omega, by go_num, NX.out ⟨by omega, by omega, fun hh => by rw [Int.toNat_natCast, HC.out] at hh; cases hh⟩⟩
                  case measure => simp [intOf]; omega
              · go_wp2
                go_ret
                exact ⟨SomeBool.no, rfl⟩
            · go_wp2
              go_ret
              exact ⟨SomeBool.no, rfl⟩
          · go_wp2
            go_round
            case rel =>
              refine ⟨k + 1, by omega, by go_num, fun k' hk' m' hm' => ?_⟩
              by_cases e1 : k' = k
              · subst e1
                rw [HL.out] at hm'
                exact HQ.out m' (by omega)
              · exact HP.out k' (by omega) m' hm'
            case measure => simp [intOf]; omega
      · go_wp2
        go_ret
        exact ⟨SomeBool.yes (show RowsAll n rs _ from fun k' hk' => HP.out k' (by omega)), rfl⟩
  · have hne : ((kl : Int) != (tl : Int)) = true := by simp; omega
    go_enter Try.func34, Try.ntmps34
    go_wp2
    go_ret
    exact ⟨SomeBool.no, rfl⟩

end Go.Proofs.Qxb6602594a

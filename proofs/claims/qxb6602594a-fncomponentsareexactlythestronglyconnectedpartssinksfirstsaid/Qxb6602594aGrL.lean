import Derived.Test.Qxb6602594aGrK
import Derived.Deep.CutRange
import Derived.BigRegion
import Derived.BigQuiet
namespace Go.Proofs.Qxb6602594a
open Go.RowKit
set_option linter.unusedSimpArgs false
set_option linter.unusedVariables false


theorem Hid.mk' {p : Prop} (h : p) : Hid p := h

theorem EdNo.ok {tl : Nat} {tz kz : List Int} {n : Nat} {kinds e : Int} (h : EdNo tl kz kinds e) : EdOk tl tz kz n kinds e := ⟨h.1, h.2.1, fun hc => by rw [h.2.2] at hc; cases hc⟩
theorem adj_none {n : Nat} {tl : Nat} {tz kz : List Int} {rs : List (List Int)} {kinds : Int} (hl : rs.length = n) (hno : RowsAll n rs (EdNo tl kz kinds)) : ∀ x y, ¬ Tj.Ed (adj tz kz rs kinds) x y := by
  intro x y hy
  obtain ⟨e, he, h1⟩ := List.mem_map.1 hy
  obtain ⟨m, hm, rfl⟩ := List.mem_iff_getElem.1 he
  have hx : x < n := by
    rcases Nat.lt_or_ge x n with h | h
    · exact h
    · have : rs.getD x [] = [] := by rw [List.getD_eq_getElem?_getD, List.getElem?_eq_none (by omega)]; rfl
      rw [this] at hm
      simp at hm
  have h2 := hno x hx m hm
  have h3 : (rs.getD x []).getD m 0 = (rs.getD x [])[m] := by rw [List.getD_eq_getElem?_getD, List.getElem?_eq_getElem hm]; rfl
  rw [h3] at h2
  rw [h2.2.2] at h1
  simp at h1

set_option maxRecDepth 100000 in
set_option maxHeartbeats 4000000 in
theorem number_walk (ta ka oa : Option Addr) (tl tc kl kc n oc : Nat) (tz kz : List Int) (rs : List (List Int)) (kinds : Int) (w : World)
    (ht : tl ≤ maxLen) (hk : kl ≤ maxLen) (hn : n ≤ maxLen) (hr : ∀ i, i < n → (rs.getD i []).length ≤ maxLen) (hT : IsI .i32 w ta tl tc tz) (hK : IsI .i64 w ka kl kc kz) (hO : IsRows w oa n oc rs) (hrw : ∀ i, I32s (rs.getD i [])) (htw : I32s tz) :
    Calls Try.prog 9 #[.slice ta tl tc, .slice ka kl kc, .slice oa n oc, .int .i64 kinds] w fun e w' => e = .returned (.bool true) ∧ Below w.heap.size w w' := by
  have HT : Hid (IsI .i32 w ta tl tc tz) := hT
  have HK : Hid (IsI .i64 w ka kl kc kz) := hK
  have HO : Hid (IsRows w oa n oc rs) := hO
  have HR : Hid (∀ i, i < n → (rs.getD i []).length ≤ maxLen) := hr
  have HW : Hid (∀ i, I32s (rs.getD i [])) := hrw
  have HTW : Hid (I32s tz) := htw
  clear hT hK hO hr hrw htw
  go_enter Try.func9, Try.ntmps9
  go_wp2_with fail
  refine (grBytes39 ta ka oa tl tc kl kc n oc rs kinds _ ht hk hn HR.out HO.out).mono ?_
  rintro e w1 ⟨⟨bo, rfl, hbo⟩, rfl⟩
  clear ht hk hn
  cases bo with
  | false =>
    go_wp2
    go_ret
    exact ⟨rfl, Below.refl _ _⟩
  | true =>
  obtain ⟨ht, hk, hn, hr⟩ := hbo rfl
  have HR2 : Hid (∀ i, i < n → (rs.getD i []).length ≤ 1048576) := hr
  clear hbo hr
  go_wp2_with fail
  refine (dgBytes_any ta ka oa tl tc kl kc n oc rs _ ht hk hn HR2.out HO.out).mono ?_
  rintro e w2 ⟨⟨z, rfl⟩, rfl⟩
  by_cases hz : (1048576 : Int) < z
  · go_wp2
    go_ret
    exact ⟨rfl, Below.refl _ _⟩
  · go_wp2_with fail
    refine (noneCounts_any ta ka oa tl tc kl kc n oc tz kz rs kinds _ ht hk hn HR2.out HT.out HK.out HO.out HW.out HTW.out).mono ?_
    rintro e w3 ⟨⟨b2, rfl, hb2⟩, rfl⟩
    cases b2 with
    | false =>
      go_wp2
      go_ret
      exact ⟨rfl, Below.refl _ _⟩
    | true =>
    obtain ⟨hkl, hno⟩ := hb2 rfl
    clear hb2
    subst hkl
    have HNO : Hid (RowsAll n rs (EdNo _ kz kinds)) := hno
    clear hno hz
    go_wp2_with fail
    refine (cloneI32_calls ta _ tc tz _ ht HT.out).mono ?_
    rintro e w4 ⟨ta', tc', rfl, hb4, hT4⟩
    have HT4 := Hid.mk' hT4
    have HB4 := Hid.mk' hb4
    clear hT4 hb4
    go_wp2_with fail
    refine (cloneInts_calls ka _ kc kz _ hk (HK.out.later HB4.out)).mono ?_
    rintro e w5 ⟨ka', kc', rfl, hb5, hK5⟩
    have HK5 := Hid.mk' hK5
    have HB5 := Hid.mk' hb5
    clear hK5 hb5
    go_wp2_with fail
    refine (cloneRows_calls oa n oc rs _ hn HR2.out ((HO.out.later HB4.out).later HB5.out)).mono ?_
    rintro e w6 ⟨oa', oc', rfl, hb6, hO6⟩
    have HO6 := Hid.mk' hO6
    have HB6 := Hid.mk' hb6
    clear hO6 hb6
    go_wp2_with fail
    refine (zzcomp_calls ta' ka' oa' _ tc' kc' n oc' tz kz rs kinds _ ht hn HR2.out ((HT4.out.later HB5.out).later HB6.out) (HK5.out.later HB6.out) HO6.out (fun k hk m hm => (HNO.out k hk m hm).ok) HTW.out).mono ?_
    rintro e w7 ⟨rb, S, rfl, hb7, h1, h2, h3, h4⟩
    have hrow : w7.rowIs rb 21 n (fun i => iv i) := h4.congr (fun i hi => by rw [(h1.lone (adj_none HO.out.length HNO.out)).fin h2 h3 i hi])
    have HBW : Hid (Below w.heap.size w w7) := ((HB4.out.trans (HB5.out.mono HB4.out.size)).trans (HB6.out.mono (Nat.le_trans HB4.out.size HB5.out.size))).trans (hb7.mono (Nat.le_trans HB4.out.size (Nat.le_trans HB5.out.size HB6.out.size)))
    have HROW := Hid.mk' hrow
    clear h1 h2 h3 h4 hb7 hrow HB4 HB5 HB6 HT4 HK5 HO6
    go_wp2_with fail
    go_loopg [10] n (fun gk i wr => ∃ k : Nat, k ≤ n ∧ gk + k = n ∧ i = .int .i64 k ∧ wr = w7)
    case atStart => exact ⟨0, Nat.zero_le _, rfl, rfl, rfl⟩
    case round =>
      obtain ⟨k, hkn, hgk, rfl, rfl⟩ := hrel
      by_cases hlt : k < n
      · have hc := HROW.out.cell (i := k) hlt
        go_wp2
        go_roundg (n - (k + 1))
        case rel => exact ⟨k + 1, by omega, by omega, by go_num, rfl⟩
        case measure => omega
      · go_wp2
        go_ret
        exact ⟨rfl, HBW.out⟩
end Go.Proofs.Qxb6602594a

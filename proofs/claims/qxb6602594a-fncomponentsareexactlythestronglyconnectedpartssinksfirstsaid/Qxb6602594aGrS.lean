import Derived.Test.Qxb6602594aGrR
import Derived.Deep.CutRange
import Derived.BigRegion
import Derived.Deep.RegionHeld3
import Derived.Deep.CutBlock
import Derived.BigQuiet
namespace Go.Proofs.Qxb6602594a
open Go.RowKit
set_option linter.unusedSimpArgs false
set_option linter.unusedVariables false


theorem hd_iff {tz kz : List Int} {kinds : Int} {c : Nat → Nat} {y x ee : Nat} : hdB tz kz kinds c y x (ee : Int) = true ↔ cts kinds (kz.getD ee 0) = true ∧ (tz.getD ee 0).toNat = y ∧ c y = c x := by
  simp [hdB, and_assoc]
theorem ed_at {tz kz : List Int} {rs : List (List Int)} {kinds : Int} {x i ee : Nat} (hlt : i < (rs.getD x []).length) (heq : (rs.getD x []).getD i 0 = (ee : Int)) (hc : cts kinds (kz.getD ee 0) = true) : Tj.Ed (adj tz kz rs kinds) x (tz.getD ee 0).toNat := by
  refine List.mem_map.2 ⟨(rs.getD x []).getD i 0, ?_, ?_⟩
  · have e1 : (rs.getD x []).getD i 0 = (rs.getD x [])[i] := by rw [List.getD_eq_getElem?_getD, List.getElem?_eq_getElem hlt]; rfl
    rw [e1]
    exact List.getElem_mem hlt
  · rw [heq, Int.toNat_natCast, if_pos hc]
theorem make_que (n : Nat) (hn : n ≤ 1048576) (w : World) :
    (Instr.makeSlice 48 (.int .i64 0) (.int .i64 (n : Int))).run Try.prog w = .ok (.slice (some ⟨w.heap.size, 0, none⟩) 0 n) (w.alloc (.cells (madeCells #[.int .i32 0] n) 21)) := by
  obtain ⟨i, hi, hz, hs, hb⟩ := info_parts Try.info21
  have hr := run_make (P := Try.prog) w 48 21 i _ Try.underlying48 hi hz .i64 .i64 0 n (by omega) (by omega) (by rw [hb]; omega) (by omega)
  simp only [Int.toNat_natCast, Int.toNat_zero, hs, Nat.mul_one] at hr
  exact hr

theorem kept_set {w : World} {b o : Nat} {u : Value} (h : w.cell? ⟨b, o, none⟩ = some u) {b' : Nat} (o' : Nat) (v : Value) (hne : b ≠ b') : (w.setCell ⟨b', o', none⟩ v).cell? ⟨b, o, none⟩ = some u := keep_set h hne

def stA (T : Nat → Nat) (j : Nat) : Int := if j = 0 then 0 else (T (j - 1) : Int)
theorem ecn_none {tz kz : List Int} {rs : List (List Int)} {kinds : Int} {c : Nat → Nat} {x i : Nat} (hi : i < (rs.getD x []).length) (h : ∀ y, hdB tz kz kinds c y x ((rs.getD x []).getD i 0) = true → False) (y : Nat) : ecn tz kz rs kinds c y x (i + 1) = ecn tz kz rs kinds c y x i := by
  rw [ecn_succ y x i hi, if_neg (fun e => h y e)]
  rfl
theorem ecn_one {tz kz : List Int} {rs : List (List Int)} {kinds : Int} {c : Nat → Nat} {x i y : Nat} (hi : i < (rs.getD x []).length) (h : ∀ y', hdB tz kz kinds c y' x ((rs.getD x []).getD i 0) = true ↔ y' = y) (y' : Nat) : ecn tz kz rs kinds c y' x (i + 1) = if y' = y then ecn tz kz rs kinds c y x i + 1 else ecn tz kz rs kinds c y' x i := by
  rw [ecn_succ y' x i hi]
  by_cases e : y' = y
  · rw [if_pos ((h y').2 e), if_pos e, e]
  · rw [if_neg (fun q => e ((h y').1 q)), if_neg e]
    rfl
theorem stA_one {T T' : Nat → Nat} {y : Nat} (h : ∀ y', T' y' = if y' = y then T y + 1 else T y') (j : Nat) : (if j = y + 1 then Value.int .i64 ((T y : Int) + 1) else .int .i64 (stA T j)) = .int .i64 (stA T' j) := by
  by_cases e : j = y + 1
  · rw [if_pos e, e]
    simp [stA, h]
  · rw [if_neg e]
    unfold stA
    by_cases e0 : j = 0
    · simp [e0]
    · rw [if_neg e0, if_neg e0, h, if_neg (by omega)]
def putAll (A : Act) (js : List Nat) (u : Nat → Value) : Act := js.foldl (fun a j => a.put (some j) (u j)) A
theorem region_cut {P : Program} {cd : Code} {A : Act} {w : World} {Q' : Exit → Act → World → Prop} (js : List Nat) (R : World → Prop)
    (h1 : cd.wp P (Exit.then (fun a' w' => a' = putAll A js (fun j => nth a'.tmps.toList j) ∧ R w') (fun _ _ _ => False)) A w) (h2 : ∀ u w', R w' → Q' .normal (putAll A js u) w') : cd.wp P Q' A w := by
  refine Code.wp_mono ?_ h1
  intro e a w' h
  cases e
  case normal =>
    have h' : a = putAll A js (fun j => nth a.tmps.toList j) ∧ R w' := h
    rw [h'.1]
    exact h2 _ w' h'.2
  all_goals exact (h : False).elim
theorem own_below {w w' : World} {base : Nat} {e : TypeId} {size : Nat} {v : Value} {n : Nat} {xs : List Value} (h : w.ownsRow base e size v n xs) (hb : Below w.heap.size w w') : w'.ownsRow base e size v n xs :=
  h.kept (row := none) ⟨hb.os, hb.tape, hb.output, hb.size, fun k hk _ => hb.block k hk⟩ (by cases hv : v.ownBlock with | none => exact .inl rfl | some g => exact .inr (by simp))
theorem own_zero {w : World} {base : Nat} {e : TypeId} {size : Nat} {a : Option Addr} {n cap : Nat} {xs : List Value} (h : w.ownsRow base e size (.slice a n cap) n xs) : w.ownsRow base e size (.slice a 0 cap) 0 [] := by
  refine ⟨by simp, ?_⟩
  rcases h.2 with ⟨h1, _⟩ | ⟨g, cap', cur, h1, h2, h3, h4, h5, h6, h7⟩
  · cases h1
    exact .inl ⟨rfl, rfl⟩
  · cases h1
    exact .inr ⟨g, cap, cur, rfl, h2, h3, Nat.zero_le _, h5, h6, by simp⟩
theorem st_mono (T : Nat → Nat) : ∀ a b, a ≤ b → Tj.rsum T a ≤ Tj.rsum T b
  | a, 0, h => by have : a = 0 := by omega
                  subst this; exact Nat.le_refl _
  | a, b + 1, h => by
    by_cases e : a = b + 1
    · subst e; exact Nat.le_refl _
    · have := st_mono T a b (by omega)
      simp only [Tj.rsum]
      omega

def sumA (T : Nat → Nat) (m j : Nat) : Int := if j ≤ m then (Tj.rsum T j : Int) else (T (j - 1) : Int)
theorem sumA_zero (T : Nat → Nat) (j : Nat) : stA T j = sumA T 0 j := by
  unfold stA sumA
  by_cases e : j = 0
  · subst e; simp [Tj.rsum]
  · rw [if_neg e, if_neg (by omega)]
theorem sumA_step (T : Nat → Nat) (m j : Nat) : (if j = m + 1 then Value.int .i64 ((T m : Int) + (Tj.rsum T m : Int)) else .int .i64 (sumA T m j)) = .int .i64 (sumA T (m + 1) j) := by
  by_cases e : j = m + 1
  · rw [if_pos e, e]
    simp [sumA, Tj.rsum]
    omega
  · rw [if_neg e]
    unfold sumA
    by_cases h : j ≤ m
    · rw [if_pos h, if_pos (by omega)]
    · rw [if_neg h, if_neg (by omega)]
/-- What the places of the sources hold. -/
def Lists (tz kz : List Int) (rs : List (List Int)) (kinds : Int) (c : Nat → Nat) (st : Nat → Nat) (n : Nat) (Z : Nat → Nat) (x i : Nat) : Prop :=
  ∀ x' i' y, (x' < x ∨ (x' = x ∧ i' < i)) → i' < (rs.getD x' []).length → y < n → hdB tz kz kinds c y x' ((rs.getD x' []).getD i' 0) = true → ∃ j, st y ≤ j ∧ j < st y + ecn tz kz rs kinds c y x i ∧ Z j = x'
theorem Lists.next {tz kz : List Int} {rs : List (List Int)} {kinds : Int} {c : Nat → Nat} {st : Nat → Nat} {n : Nat} {Z : Nat → Nat} {x : Nat} (h : Lists tz kz rs kinds c st n Z x (rs.getD x []).length) : Lists tz kz rs kinds c st n Z (x + 1) 0 := by
  intro x' i' y h1 h2 h3 h4
  have h5 : x' < x ∨ (x' = x ∧ i' < (rs.getD x []).length) := by
    rcases h1 with h1 | ⟨_, h1⟩
    · by_cases e : x' = x
      · right; subst e; exact ⟨rfl, h2⟩
      · left; omega
    · omega
  obtain ⟨j, p1, p2, p3⟩ := h x' i' y h5 h2 h3 h4
  exact ⟨j, p1, by rw [← ecn_row]; exact p2, p3⟩
theorem Lists.none {tz kz : List Int} {rs : List (List Int)} {kinds : Int} {c : Nat → Nat} {st : Nat → Nat} {n : Nat} {Z : Nat → Nat} {x i : Nat} (h : Lists tz kz rs kinds c st n Z x i) (hi : i < (rs.getD x []).length) (hn : ∀ y, hdB tz kz kinds c y x ((rs.getD x []).getD i 0) = true → False) : Lists tz kz rs kinds c st n Z x (i + 1) := by
  intro x' i' y h1 h2 h3 h4
  have h5 : x' < x ∨ (x' = x ∧ i' < i) := by
    rcases h1 with h1 | ⟨e, h1⟩
    · exact .inl h1
    · subst e
      by_cases e2 : i' = i
      · subst e2; exact (hn y h4).elim
      · exact .inr ⟨rfl, by omega⟩
  obtain ⟨j, p1, p2, p3⟩ := h x' i' y h5 h2 h3 h4
  exact ⟨j, p1, by rw [ecn_none hi hn]; exact p2, p3⟩
theorem Lists.one {tz kz : List Int} {rs : List (List Int)} {kinds : Int} {c : Nat → Nat} {T : Nat → Nat} {n : Nat} {Z : Nat → Nat} {x i y0 : Nat} (hT : T = fun y => ecn tz kz rs kinds c y n 0) (h : Lists tz kz rs kinds c (Tj.rsum T) n Z x i) (hx : x < n) (hi : i < (rs.getD x []).length)
    (ho : ∀ y', hdB tz kz kinds c y' x ((rs.getD x []).getD i 0) = true ↔ y' = y0) : Lists tz kz rs kinds c (Tj.rsum T) n (Tj.upd Z (Tj.rsum T y0 + ecn tz kz rs kinds c y0 x i) x) x (i + 1) := by
  have hle : ∀ y, ecn tz kz rs kinds c y x (i + 1) ≤ T y := fun y => by rw [hT]; exact ecn_le n y x (i + 1) hx
  have hs : ∀ y, Tj.rsum T (y + 1) = Tj.rsum T y + T y := fun y => rfl
  have h0 := ecn_one hi ho
  intro x' i' y h1 h2 h3 h4
  by_cases hnew : x' = x ∧ i' = i
  · obtain ⟨rfl, rfl⟩ := hnew
    have hy := (ho y).1 h4
    subst hy
    refine ⟨_, Nat.le_add_right _ _, ?_, Tj.upd_same _ _ _⟩
    rw [h0 y, if_pos rfl]
    omega
  · have h5 : x' < x ∨ (x' = x ∧ i' < i) := by
      rcases h1 with h1 | ⟨e, h1⟩
      · exact .inl h1
      · subst e
        exact .inr ⟨rfl, by have : i' ≠ i := fun e2 => hnew ⟨rfl, e2⟩; omega⟩
    obtain ⟨j, p1, p2, p3⟩ := h x' i' y h5 h2 h3 h4
    have hle1 := hle y
    have hle2 := hle y0
    have h01 := h0 y
    have h02 := h0 y0
    rw [if_pos rfl] at h02
    refine ⟨j, p1, ?_, ?_⟩
    · rw [h01]
      split
      · rename_i e; subst e; omega
      · exact p2
    · have hne : j ≠ Tj.rsum T y0 + ecn tz kz rs kinds c y0 x i := by
        intro e
        by_cases ey : y = y0
        · subst ey; omega
        · have hly : ecn tz kz rs kinds c y x i ≤ T y := by rw [hT]; exact ecn_le n y x i hx
          rcases Nat.lt_or_ge y y0 with hlt | hge
          · have := st_mono T (y + 1) y0 (by omega)
            have := hs y
            omega
          · have := st_mono T (y0 + 1) y (by omega)
            have := hs y0
            omega
      rw [Tj.upd_other _ _ _ _ hne]
      exact p3

set_option maxRecDepth 1000000 in
set_option maxHeartbeats 100000000 in
theorem exact_walk (ta ka oa : Option Addr) (tl tc kl kc n oc : Nat) (tz kz : List Int) (rs : List (List Int)) (kinds : Int) (w : World)
    (ht : tl ≤ maxLen) (hk : kl ≤ maxLen) (hn : n ≤ maxLen) (hr : ∀ i, i < n → (rs.getD i []).length ≤ maxLen) (hT : IsI .i32 w ta tl tc tz) (hK : IsI .i64 w ka kl kc kz) (hO : IsRows w oa n oc rs) (hrw : ∀ i, I32s (rs.getD i [])) (htw : I32s tz) :
    Calls Try.prog 7 #[.slice ta tl tc, .slice ka kl kc, .slice oa n oc, .int .i64 kinds] w fun e w' => e = .returned (.bool true) ∧ Below w.heap.size w w' := by
  have HT : Hid (IsI .i32 w ta tl tc tz) := hT
  have HK : Hid (IsI .i64 w ka kl kc kz) := hK
  have HO : Hid (IsRows w oa n oc rs) := hO
  have HR : Hid (∀ i, i < n → (rs.getD i []).length ≤ maxLen) := hr
  have HW : Hid (∀ i, I32s (rs.getD i [])) := hrw
  have HTW : Hid (I32s tz) := htw
  clear hT hK hO hr hrw htw
  go_enter Try.func7, Try.ntmps7
  go_wp2_with fail
  refine (grBytes32 ta ka oa tl tc kl kc n oc rs kinds _ ht hk hn HR.out HO.out).mono ?_
  rintro e w1 ⟨⟨bo, rfl, hbo⟩, rfl⟩
  clear ht hk hn
  cases bo with
  | false =>
    go_wp2
    go_ret
    exact ⟨rfl, Below.refl _ _⟩
  | true =>
  obtain ⟨ht, hk, hn, hr⟩ := hbo rfl
  have HR2 : Hid (∀ i, i < n → (rs.getD i []).length ≤ 1048576) := hr
  clear hbo hr
  go_wp2_with fail
  refine (dgBytes_any ta ka oa tl tc kl kc n oc rs _ ht hk hn HR2.out HO.out).mono ?_
  rintro e w2 ⟨⟨z, rfl⟩, rfl⟩
  by_cases hz : (1048576 : Int) < z
  · go_wp2
    go_ret
    exact ⟨rfl, Below.refl _ _⟩
  · go_wp2_with fail
    refine (domain_any ta ka oa tl tc kl kc n oc tz kz rs kinds _ ht hk hn HR2.out HT.out HK.out HO.out HW.out HTW.out).mono ?_
    rintro e w3 ⟨⟨b2, rfl, hb2⟩, rfl⟩
    cases b2 with
    | false =>
      go_wp2
      go_ret
      exact ⟨rfl, Below.refl _ _⟩
    | true =>
    obtain ⟨hkl, hno⟩ := hb2 rfl
    clear hb2
    have HOK : Hid (RowsAll n rs (EdOk kl tz kz n kinds)) := by rw [hkl]; exact hno
    subst hkl
    clear hno hz
    go_wp2_with fail
    refine (cloneI32_calls ta _ tc tz _ ht HT.out).mono ?_
    rintro e w4 ⟨ta', tc', rfl, hb4, hT4⟩
    have HT4 := Hid.mk' hT4
    have HB4 := Hid.mk' hb4
    clear hT4 hb4
    go_wp2_with fail
    refine (cloneInts_calls ka _ kc kz _ hk (HK.out.later HB4.out)).mono ?_
    rintro e w5 ⟨ka', kc', rfl, hb5, hK5⟩
    have HK5 := Hid.mk' hK5
    have HB5 := Hid.mk' (HB4.out.trans (hb5.mono HB4.out.size))
    have HT5 := Hid.mk' (HT4.out.later hb5)
    clear hK5 hb5 HT4 HB4
    go_wp2_with fail
    refine (cloneRows_calls oa n oc rs _ hn HR2.out (HO.out.later HB5.out)).mono ?_
    rintro e w6 ⟨oa', oc', rfl, hb6, hO6⟩
    have HO6 := Hid.mk' hO6
    have HT6 := Hid.mk' (HT5.out.later hb6)
    have HK6 := Hid.mk' (HK5.out.later hb6)
    have HB6 := Hid.mk' (HB5.out.trans (hb6.mono HB5.out.size))
    clear hO6 hb6 HT5 HK5 HB5
    go_wp2_with fail
    refine (zzcomp_calls ta' ka' oa' _ tc' kc' n oc' tz kz rs kinds _ ht hn HR2.out HT6.out HK6.out HO6.out HOK.out HTW.out).mono ?_
    rintro e w7 ⟨rb, S1, rfl, hb7, f1, f2, f3, f4⟩
    have HG1 : Hid (∀ x y, x < n → Tj.Ed (adj tz kz rs kinds) x y → y < n) := adj_lt HOK.out
    obtain ⟨c, K, HFN, hKn, hrow7⟩ : ∃ (c : Nat → Nat) (K : Nat), Hid (Tj.Fin n (adj tz kz rs kinds) c K) ∧ K ≤ n ∧ w7.rowIs rb 21 n (fun i => iv (c i)) :=
      ⟨S1.comp, S1.comps, (f1.inv HG1.out).fin f2 f3, by have q1 := (f1.num HG1.out).comps; have q2 := (f1.num HG1.out).nextle; omega, f4⟩
    have HC7 := Hid.mk' hrow7
    have HB7 := Hid.mk' (HB6.out.trans (hb7.mono HB6.out.size))
    have HO7 := Hid.mk' (HO6.out.later hb7)
    have HT7 := Hid.mk' (HT6.out.later hb7)
    have HK7 := Hid.mk' (HK6.out.later hb7)
    have HDOM : Hid (∀ x y, Tj.Ed (adj tz kz rs kinds) x y → x < n) := fun x y h => adj_dom HO.out.length h
    clear f1 f2 f3 f4 hb7 HO6 HT6 HK6 HB6 hrow7 HT HK HW HR
    clear S1
    have HCL : Hid (∀ v, v < n → c v < K) := HFN.out.lt
    go_upto_block 0 with fail
    go_cut [11, 12, 13] from 96 to 119 (fun s11 s12 s13 wc => s11 = .int .i64 K ∧ wc = w7)
    case first =>
      as_aux_lemma =>
        go_wp2_with fail
        go_loopg [11, 12] n (fun gk k x wr => ∃ m Km : Nat, m ≤ n ∧ gk + m = n ∧ x = .int .i64 m ∧ k = .int .i64 Km ∧ wr = w7 ∧ Km ≤ n ∧ (∀ v, v < m → c v < Km) ∧ (Km = 0 ∨ ∃ v, v < m ∧ c v + 1 = Km))
        case atStart => exact ⟨0, 0, Nat.zero_le _, rfl, rfl, rfl, rfl, Nat.zero_le _, fun v hv => absurd hv (by omega), .inl rfl⟩
        case round =>
          obtain ⟨m, Km, hmn, hgm, rfl, rfl, rfl, hkm, hA, hB⟩ := hrel
          have HA := Hid.mk' hA
          have HBB := Hid.mk' hB
          clear hA hB
          by_cases hlt : m < n
          · have hc := HC7.out.cell (i := m) hlt
            have hcl := HCL.out m hlt
            by_cases hge : Km ≤ c m
            · go_wp2
              go_roundg (n - (m + 1))
              case rel =>
                refine ⟨m + 1, c m + 1, by omega, by omega, by go_num, by go_num, rfl, by omega, fun v hv => ?_, .inr ⟨m, by omega, rfl⟩⟩
                by_cases e : v = m
                · rw [e]; omega
                · have := HA.out v (by omega); omega
              case measure => omega
            · go_wp2
              go_roundg (n - (m + 1))
              case rel =>
                refine ⟨m + 1, Km, by omega, by omega, by go_num, rfl, rfl, by omega, fun v hv => ?_, ?_⟩
                · by_cases e : v = m
                  · rw [e]; omega
                  · exact HA.out v (by omega)
                · rcases HBB.out with h | ⟨v, h1, h2⟩
                  · exact .inl h
                  · exact .inr ⟨v, by omega, h2⟩
              case measure => omega
          · have hmn' : m = n := by omega
            subst hmn'
            have hK : Km = K := by
              have h1 : Km ≤ K := by
                rcases HBB.out with h | ⟨v, h1, h2⟩
                · omega
                · have := HCL.out v h1; omega
              rcases Nat.lt_or_ge Km K with h | h
              · obtain ⟨v, h3, h4⟩ := HFN.out.used Km h
                have := HA.out v h3
                omega
              · omega
            subst hK
            clear HA HBB
            go_wp2
            go_meet
            case rel => exact ⟨rfl, rfl⟩
    case rest =>
    obtain ⟨rfl, rfl⟩ := hcut
    obtain ⟨W7, rfl⟩ : ∃ V, V = wc := ⟨_, rfl⟩
    have hmkK := fun w => run_make_row' (P := Try.prog) 48 21 (.int .i32 0) 4 Try.underlying48 Try.info21 rfl .i64 .i64 K (by omega) (by omega) w
    go_upto_block 2 with fail
    go_cut [15] from 122 to 129 (fun s15 wd => Below W7.heap.size W7 wd ∧ wd.rowIs W7.heap.size 21 K (fun _ => .int .i32 (-1)))
    case first =>
      as_aux_lemma =>
        go_wp2_with fail
        go_loopg [15] K (fun gk i wr => ∃ k : Nat, k ≤ K ∧ gk + k = K ∧ i = .int .i64 k ∧ Below W7.heap.size W7 wr ∧ wr.rowIs W7.heap.size 21 K (fun j => .int .i32 (if j < k then -1 else 0)))
        case atStart =>
          refine ⟨0, Nat.zero_le _, rfl, rfl, (Below.refl _ _).alloc (Nat.le_refl _) _, ?_⟩
          exact (World.rowIs_made W7 (.int .i32 0) K 21).congr (fun i _ => by simp)
        case round =>
          obtain ⟨k, hkn, hgk, rfl, hb, hrow⟩ := hrel
          by_cases hlt : k < K
          · have hc := hrow.cell (i := k) hlt
            have hf := hrow.frozen k
            go_wp2
            go_roundg (K - (k + 1))
            case rel =>
              refine ⟨k + 1, by omega, by omega, by go_num, hb.setCell (Nat.le_refl _) _, (hrow.set k _).congr (fun j hj => ?_)⟩
              by_cases hjk : j = k
              · subst hjk; simp
              · by_cases h2 : j < k
                · simp [hjk, h2, Nat.lt_succ_of_lt h2]
                · have : ¬ j < k + 1 := by omega
                  simp [hjk, h2, this]
            case measure => omega
          · go_wp2
            go_meet
            case rel => exact ⟨hb, hrow.congr (fun i hi => by simp [show i < k by omega])⟩
    case rest =>
    obtain ⟨hb, hrow⟩ := hcut
    have HB8 := Hid.mk' hb
    have HP8 := Hid.mk' hrow
    clear hb hrow hmkK
    obtain ⟨W8, rfl⟩ : ∃ V, V = wc := ⟨_, rfl⟩
    go_upto_block 4 with fail
    go_cut [16] from 130 to 150 (fun s16 wd => Below W7.heap.size W7 wd ∧ ∃ r : Nat → Nat, (∀ f, f < K → r f < n ∧ c (r f) = f) ∧ wd.rowIs W7.heap.size 21 K (fun f => iv (r f)))
    case first =>
      as_aux_lemma =>
        go_wp2_with fail
        go_loopg [16] n (fun gk i wr => ∃ (m : Nat) (F : Nat → Int), m ≤ n ∧ gk + m = n ∧ i = .int .i64 m ∧ Below W7.heap.size W7 wr ∧ wr.rowIs W7.heap.size 21 K (fun j => .int .i32 (F j)) ∧ (∀ f, F f = -1 ∨ ∃ x : Nat, x < m ∧ c x = f ∧ F f = (x : Int)) ∧ (∀ x, x < m → F (c x) ≠ -1))
        case atStart => exact ⟨0, fun _ => -1, Nat.zero_le _, rfl, rfl, HB8.out, HP8.out, fun f => .inl rfl, fun x hx => absurd hx (by omega)⟩
        case round =>
          obtain ⟨m, F, hmn, hgm, rfl, hb, hrow, hF, hG⟩ := hrel
          have HROW := Hid.mk' hrow
          have HB := Hid.mk' hb
          have HFF := Hid.mk' hF
          have HGG := Hid.mk' hG
          by_cases hlt : m < n
          · have c1 := HC7.out.cell (i := m) hlt
            have l1 := World.block_lt_of_cell? W7 _ c1
            rw [← hb.cell l1] at c1
            have b1 := HCL.out m hlt
            have cf := hrow.cell (i := c m) b1
            have ff := hrow.frozen (c m)
            have hne : rb ≠ W7.heap.size := by simp at l1; omega
            have HFm := hF (c m)
            clear hrow hb hF hG
            rcases HFm with h0 | ⟨x, hx, hx1, hx2⟩
            · rw [h0] at cf
              go_wp2
              go_roundg (n - (m + 1))
              case rel =>
                refine ⟨m + 1, fun j => if j = c m then (m : Int) else F j, by omega, by omega, by go_num, HB.out.setCell (Nat.le_refl _) _, (HROW.out.set (c m) _).congr (fun j hj => ?_), fun f => ?_, fun x hx => ?_⟩
                · by_cases hj2 : j = c m
                  · simp [hj2]
                  · simp [hj2]
                · by_cases hf : f = c m
                  · right
                    exact ⟨m, by omega, hf.symm, by simp [hf]⟩
                  · rcases HFF.out f with h | ⟨x, hx, hx1, hx2⟩
                    · left; simpa [hf] using h
                    · right; exact ⟨x, by omega, hx1, by simpa [hf] using hx2⟩
                · by_cases hf : c x = c m
                  · first | (simp [hf]; done) | (simp [hf]; omega)
                  · have : x ≠ m := fun e => hf (by rw [e])
                    simp [hf]
                    exact HGG.out x (by omega)
              case measure => omega
            · rw [hx2] at cf
              have hnn : ¬ ((x : Int) < 0) := by omega
              go_wp2
              go_roundg (n - (m + 1))
              case rel =>
                refine ⟨m + 1, F, by omega, by omega, by go_num, HB.out, HROW.out, fun f => ?_, fun x' hx' => ?_⟩
                · rcases HFF.out f with h | ⟨x, hx, h1, h2⟩
                  · exact .inl h
                  · exact .inr ⟨x, by omega, h1, h2⟩
                · by_cases e : x' = m
                  · rw [e, hx2]; omega
                  · exact HGG.out x' (by omega)
              case measure => omega
          · have hmn' : m = n := by omega
            subst hmn'
            go_wp2
            go_meet
            case rel =>
              have hr : ∀ f, f < K → ∃ x : Nat, x < m ∧ c x = f ∧ F f = (x : Int) := by
                intro f hf
                obtain ⟨v, h1, h2⟩ := HFN.out.used f hf
                rcases hF f with h | h
                · exact absurd (by rw [h2]; exact h) (hG v h1)
                · exact h
              refine ⟨hb, fun f => (F f).toNat, fun f hf => ?_, hrow.congr (fun f hf => ?_)⟩
              · obtain ⟨x, h1, h2, h3⟩ := hr f hf
                simp only [h3, Int.toNat_natCast]
                exact ⟨h1, h2⟩
              · obtain ⟨x, h1, h2, h3⟩ := hr f hf
                simp [h3]
    case rest =>
    obtain ⟨hb, r, hr, hrow⟩ := hcut
    have HB9 := Hid.mk' hb
    have HP9 := Hid.mk' hrow
    have HRR := Hid.mk' hr
    clear hb hrow hr HB8 HP8
    obtain ⟨W9, rfl⟩ : ∃ V, V = wc := ⟨_, rfl⟩
    go_upto_block 6 with fail
    go_cut [17] from 151 to 160 (fun s17 wd => wd = W9)
    case first =>
      as_aux_lemma =>
        go_wp2_with fail
        go_loopg [17] K (fun gk i wr => ∃ m : Nat, m ≤ K ∧ gk + m = K ∧ i = .int .i64 m ∧ wr = W9)
        case atStart => exact ⟨0, Nat.zero_le _, rfl, rfl, rfl⟩
        case round =>
          obtain ⟨m, hmk, hgm, rfl, rfl⟩ := hrel
          by_cases hlt : m < K
          · have hc := HP9.out.cell (i := m) hlt
            have hnn : ¬ ((r m : Int) < 0) := by omega
            go_wp2
            go_roundg (K - (m + 1))
            case rel => exact ⟨m + 1, by omega, by omega, by go_num, rfl⟩
            case measure => omega
          · go_wp2
            go_meet
            case rel => rfl
    case rest =>
    subst hcut
    obtain ⟨W9, rfl⟩ : ∃ V, V = wc := ⟨_, rfl⟩
    have HT9 := Hid.mk' (HT7.out.later HB9.out)
    have HK9 := Hid.mk' (HK7.out.later HB9.out)
    have HO9 := Hid.mk' (HO7.out.later HB9.out)
    have HC9 : Hid (W9.rowIs rb 21 n (fun i => iv (c i))) := HC7.out.of_block (HB9.out.block _ HC7.out.lt)
    have HW9 := Hid.mk' (HB7.out.trans (HB9.out.mono HB7.out.size))
    clear HT7 HK7 HO7 HC7 HB7 HB9
    go_upto_block 8 with fail
    go_cut [18, 19, 20] from 161 to 202 (fun s18 s19 s20 wd => Below W9.heap.size W9 wd)
    case first =>
      as_aux_lemma =>
        have HKX := HK9
        have HTX := HT9
        go_wp2_with fail
        go_loopg [18] n (fun gk i wr => ∃ m : Nat, m ≤ n ∧ gk + m = n ∧ i = .int .i64 m ∧ Below W9.heap.size W9 wr)
        case atStart => exact ⟨0, Nat.zero_le _, rfl, rfl, Below.refl _ _⟩
        case round =>
          obtain ⟨m, hmn, hgm, rfl, hb⟩ := hrel
          by_cases hlt : m < n
          · obtain ⟨ob, ooff, hoa, hrow⟩ := HO9.out.at_ (by omega)
            subst hoa
            obtain ⟨ra, rl, rc, hcr, hI⟩ := hrow m hlt
            have hll : rl ≤ 1048576 := by have := HR2.out m hlt; rw [hI.length] at this; exact this
            have hcr1 := (hb.cell (World.block_lt_of_cell? W9 _ hcr)).trans hcr
            clear hrow
            go_wp2_with fail
            go_loopg [19] rl (fun gk i wr => ∃ j : Nat, j ≤ rl ∧ gk + j = rl ∧ i = .int .i64 j ∧ Below W9.heap.size W9 wr)
            case atStart => exact ⟨0, Nat.zero_le _, rfl, rfl, hb⟩
            case round =>
              clear hcr1 hb
              obtain ⟨j, hjl, hgj, rfl, hb⟩ := hrel
              by_cases hlt2 : j < rl
              · obtain ⟨wr2, rfl⟩ : ∃ V, V = wr := ⟨_, rfl⟩
                have kp : ∀ {a v}, W9.cell? a = some v → wr2.cell? a = some v := fun h => (hb.cell (World.block_lt_of_cell? W9 _ h)).trans h
                have hcr2 := kp hcr
                obtain ⟨zb, zoff, hra, hrc⟩ := hI.at_ (by omega)
                subst hra
                have hli : j < (rs.getD m []).length := by rw [hI.length]; exact hlt2
                have hE := HOK.out m hlt j hli
                obtain ⟨ee, heq⟩ := Int.eq_ofNat_of_zero_le hE.1
                have hcell := kp (hrc j hlt2)
                rw [heq] at hcell hE
                have heet : ee < kl := by have := hE.2.1; omega
                obtain ⟨kb, koff, hka, hkc⟩ := HKX.out.at_ (by omega)
                subst hka
                obtain ⟨tb, toff, hta, htc⟩ := HTX.out.at_ (by omega)
                subst hta
                have ckk := kp (hkc ee heet)
                have ctt := kp (htc ee heet)
                have HEQ := Hid.mk' heq
                have HEt : cts kinds (kz.getD ee 0) = true → 0 ≤ tz.getD ee 0 ∧ tz.getD ee 0 < n := by have := hE.2.2; simpa using this
                have HHD : Hid (∀ y, hdB tz kz kinds c y m ((rs.getD m []).getD j 0) = true ↔ cts kinds (kz.getD ee 0) = true ∧ (tz.getD ee 0).toNat = y ∧ c y = c m) := by intro y; rw [heq]; exact hd_iff
                have HED : Hid (cts kinds (kz.getD ee 0) = true → Tj.Ed (adj tz kz rs kinds) m (tz.getD ee 0).toNat) := fun h => ed_at hli heq h
                generalize kz.getD ee 0 = kk at ckk HEt HHD HED
                generalize tz.getD ee 0 = t at ctt HEt HHD HED
                clear hE heq hkc htc hrc
                have cx := kp (HC9.out.cell (i := m) hlt)
                have HB := Hid.mk' hb
                clear hb
                rcases Bool.eq_false_or_eq_true (cts kinds kk) with hct | hct
                · have hno : (bits BinOp.and IntKind.i64 kk kinds != 0) = true := by simpa [cts] using hct
                  obtain ⟨ht0, ht1⟩ := HEt hct
                  obtain ⟨y, rfl⟩ := Int.eq_ofNat_of_zero_le ht0
                  have hyn : y < n := by omega
                  have cy := kp (HC9.out.cell (i := y) hyn)
                  have hle := HFN.out.down m y hlt (by simpa using HED.out hct)
                  have hgt : ¬ ((c m : Int) < (c y : Int)) := by omega
                  clear HEt HHD HED kp
                  go_upto_region 47 with fail
                  go_cut [202] from 166 to 202 (fun s202 wd => s202 = .bool false ∧ Below W9.heap.size W9 wd)
                  case first =>
                    go_quiet (fail)
                    go_wp2
                    go_meet
                    case rel => exact ⟨by first | rfl | simp [hgt], below_drewN HB.out _⟩
                  case rest =>
                    obtain ⟨rfl, hb⟩ := hcut
                    clear hcr2 hcell ckk ctt cx cy
                    go_wp2
                    go_roundg (rl - (j + 1))
                    case rel => exact ⟨j + 1, by omega, by omega, by go_num, hb⟩
                    case measure => omega
                · as_aux_lemma =>
                    have hno : (bits BinOp.and IntKind.i64 kk kinds != 0) = false := by simpa [cts] using hct
                    clear HEt HHD HED kp
                    go_upto_region 47 with fail
                    go_cut [202] from 166 to 202 (fun s202 wd => s202 = .bool false ∧ Below W9.heap.size W9 wd)
                    case first =>
                      go_quiet (fail)
                      go_wp2
                      go_meet
                      case rel => exact ⟨by first | rfl | simp, below_drewN HB.out _⟩
                    case rest =>
                      obtain ⟨rfl, hb⟩ := hcut
                      clear hcr2 hcell ckk ctt cx
                      go_wp2
                      go_roundg (rl - (j + 1))
                      case rel => exact ⟨j + 1, by omega, by omega, by go_num, hb⟩
                      case measure => omega
              · have hcr1 := (hb.cell (World.block_lt_of_cell? W9 _ hcr)).trans hcr
                go_wp2
                go_roundg (n - (m + 1))
                case rel => exact ⟨m + 1, by omega, by omega, by go_num, hb⟩
                case measure => omega
          · go_wp2
            go_meet
            case rel => exact hb
    case rest =>
    have HB0 := Hid.mk' hcut
    clear hcut
    have HT0 := Hid.mk' (HT9.out.later HB0.out)
    have HK0 := Hid.mk' (HK9.out.later HB0.out)
    have HO0 := Hid.mk' (HO9.out.later HB0.out)
    have HC0 : Hid (wc.rowIs rb 21 n (fun i => iv (c i))) := HC9.out.of_block (HB0.out.block _ HC9.out.lt)
    have HP0 : Hid (wc.rowIs W7.heap.size 21 K (fun f => iv (r f))) := HP9.out.of_block (HB0.out.block _ HP9.out.lt)
    have HW0 := Hid.mk' (HW9.out.trans (HB0.out.mono HW9.out.size))
    clear HT9 HK9 HO9 HC9 HP9 HW9 HB0
    generalize W7.heap.size = pb at HP0 ⊢
    obtain ⟨V0, rfl⟩ : ∃ V, V = wc := ⟨_, rfl⟩
    have hmkS := fun w => run_make_row' (P := Try.prog) 68 4 (.bool false) 1 Try.underlying68 Try.info4 rfl .i64 .i64 n (by omega) (by omega) w
    have hmkQ := make_que n hn
    go_upto_block 12 with fail
    go_cut [22, 23] from 207 to 224 (fun s22 s23 wd => ∃ seen Q, Bs n seen Q ∧ Bq V0 wd V0.heap.size n seen s22 Q ∧ (∀ f, f < K → seen (r f) = true))
    case first =>
      as_aux_lemma =>
        obtain ⟨i0, hi, hz0, hz1, hz2⟩ := info_parts Try.info21
        clear hmkS hmkQ
        go_wp2_with fail
        go_loopg [22, 23] K (fun gk vq i wr => ∃ (m : Nat) (seen : Nat → Bool) (Q : List Nat), m ≤ K ∧ gk + m = K ∧ i = .int .i64 m ∧ Bs n seen Q ∧ Bq V0 wr V0.heap.size n seen vq Q ∧ (∀ f, f < m → seen (r f) = true) ∧ (∀ v, seen v = true → c v < m))
        case atStart =>
          refine ⟨0, fun _ => false, [], Nat.zero_le _, rfl, rfl, Bs.start n, ⟨((Below.refl _ _).alloc (Nat.le_refl _) _).alloc (by simp) _, Nat.le_refl _, (World.rowIs_made V0 (.bool false) n 4).alloc _, ?_⟩, fun f hf => absurd hf (by omega), fun v hv => by simp at hv⟩
          have := World.ownsRow_made (base := V0.heap.size + 1) (e := 21) (size := 1) (V0.alloc (.cells (madeCells #[.bool false] n) 4)) (madeCells #[.int .i32 0] n) n (by simp) (by unfold maxLen; omega) (by simp [size_madeCells])
          simpa using this
        case round =>
          obtain ⟨m, seen, Q, hmk, hgm, rfl, hBs, hBq, hA, hC⟩ := hrel
          have HBs := Hid.mk' hBs
          have HBq := Hid.mk' hBq
          have HA := Hid.mk' hA
          have HCC := Hid.mk' hC
          clear hBs hBq hA hC
          by_cases hlt : m < K
          · have hrm := HRR.out m hlt
            have hrn := hrm.1
            have hnot : seen (r m) = false := by
              rcases Bool.eq_false_or_eq_true (seen (r m)) with h | h
              · have := HCC.out _ h; rw [hrm.2] at this; omega
              · exact h
            have hql := HBs.out.lt_n (r m) hrn hnot
            have cp := HP0.out.cell (i := m) hlt
            have lp := World.block_lt_of_cell? V0 _ cp
            rw [← HBq.out.below.cell lp] at cp
            have cs := HBq.out.seen.cell (i := r m) hrn
            have cf := HBq.out.seen.frozen (r m)
            have hne : pb ≠ V0.heap.size := by simp at lp; omega
            have HQ2 := Hid.mk' (HBq.out.mark (r m))
            have cp2 := kept_set cp (r m) (.bool true) hne
            clear hrm lp
            go_upto_region 55 with fail
            clear cp cs cf
            generalize wr.setCell ⟨V0.heap.size, r m, none⟩ (.bool true) = wr2 at HQ2 cp2 ⊢
            have hsz : V0.heap.size + 1 ≤ wr2.heap.size := by have := HQ2.out.seen.lt; omega
            go_wp2_with (at_builtin; refine wpList_append_own_at _ (by rfl) _ _ 48 (by rfl) (V0.heap.size + 1) 21 i0 (.int .i32 0) 1 4 Try.underlying48 hi hz0 hz1 hz2 rfl (by decide) _ _ _ (by rfl) (HQ2.out.que.alloc _) ⟨_, 0, none⟩ 1 1 [.int .i32 (r m)] (by rfl) rfl (cell_one_new' _ _ _ _ (by simp)) (fun x hx => by simp at hx; subst hx; rfl) (by unfold maxLen; omega) (by omega) (by simp; omega) ?_; intro v1 w3 hown1 hgrow3 _ hat3)
            go_roundg (K - (m + 1))
            case rel =>
              refine ⟨m + 1, Tj.upd seen (r m) true, Q ++ [r m], by omega, by omega, by go_num, HBs.out.add (r m) hrn hnot, (HQ2.out.alloc _).push hown1 hgrow3, fun f hf => ?_, fun v hv => ?_⟩
              · by_cases e : r f = r m
                · rw [e]; exact Tj.upd_same _ _ _
                · rw [Tj.upd_other _ _ _ _ e]
                  have : f ≠ m := fun e2 => e (by rw [e2])
                  exact HA.out f (by omega)
              · by_cases e : v = r m
                · rw [e, (HRR.out m hlt).2]; omega
                · rw [Tj.upd_other _ _ _ _ e] at hv
                  have := HCC.out v hv
                  omega
            case measure => omega
          · go_wp2
            go_meet
            case rel => exact ⟨seen, Q, HBs.out, HBq.out, fun f hf => HA.out f (by omega)⟩
    case rest =>
    obtain ⟨seen0, Q0, hBs0, hBq0, hA0⟩ := hcut
    have HBs0 := Hid.mk' hBs0
    have HBq0 := Hid.mk' hBq0
    have HA0 := Hid.mk' hA0
    clear hBs0 hBq0 hA0 hmkS hmkQ
    obtain ⟨W11, rfl⟩ : ∃ V, V = wc := ⟨_, rfl⟩
    obtain ⟨vq0, rfl⟩ : ∃ V, V = u22 := ⟨_, rfl⟩
    go_upto_block 14 with fail
    go_cut [22, 24, 25, 26, 27, 28] from 225 to 283 (fun s22 s24 s25 s26 s27 s28 wd => ∃ seen Q, Bq V0 wd V0.heap.size n seen s22 Q ∧ (∀ v, v < n → seen v = true))
    case first =>
      as_aux_lemma =>
        have HKX := HK0
        have HTX := HT0
        obtain ⟨i0, hi, hz0, hz1, hz2⟩ := info_parts Try.info21
        go_wp2_with fail
        go_loopg [22, 24] n (fun gk vq i wr => ∃ (h : Nat) (seen : Nat → Bool) (Q : List Nat), h ≤ Q.length ∧ gk + h = n ∧ i = .int .i64 h ∧ Bs n seen Q ∧ Bq V0 wr V0.heap.size n seen vq Q ∧ (∀ f, f < K → seen (r f) = true) ∧ (∀ i, i < h → ∀ y, Tj.Ed (adj tz kz rs kinds) (Q.getD i 0) y → c y = c (Q.getD i 0) → seen y = true))
        case atStart => exact ⟨0, seen0, Q0, Nat.zero_le _, rfl, rfl, HBs0.out, HBq0.out, HA0.out, fun i hi => absurd hi (by omega)⟩
        case round =>
          clear HBs0 HBq0 HA0
          obtain ⟨h, seen, Q, hhl, hgh, rfl, hBs, hBq, hA, hC⟩ := hrel
          have HBs := Hid.mk' hBs
          have HBq := Hid.mk' hBq
          have HA := Hid.mk' hA
          have HCC := Hid.mk' hC
          clear hBs hBq hA hC
          have hQn := HBs.out.le
          by_cases hlt : h < Q.length
          · obtain ⟨qg, qcap, hvq, hcq⟩ := HBq.out.at_ h hlt
            subst hvq
            have hxn : Q.getD h 0 < n := HBs.out.lt _ (by rw [List.getD_eq_getElem?_getD, List.getElem?_eq_getElem hlt]; exact List.getElem_mem hlt)
            have HX := Hid.mk' (rfl : Q.getD h 0 = Q.getD h 0)
            generalize hxq : Q.getD h 0 = x at hcq hxn
            obtain ⟨ob, ooff, hoa, hrow⟩ := HO0.out.at_ (by omega)
            subst hoa
            obtain ⟨ra, rl, rc, hcr, hI⟩ := hrow x hxn
            have hll : rl ≤ 1048576 := by have := HR2.out x hxn; rw [hI.length] at this; exact this
            have HXQ := Hid.mk' hxq
            clear hrow hxq HX
            go_wp2_with fail
            go_loopg [22, 26] rl (fun gk vq i wr => ∃ (j : Nat) (seen : Nat → Bool) (Q : List Nat), j ≤ rl ∧ gk + j = rl ∧ i = .int .i64 j ∧ h < Q.length ∧ Q.getD h 0 = x ∧ Bs n seen Q ∧ Bq V0 wr V0.heap.size n seen vq Q ∧ (∀ f, f < K → seen (r f) = true) ∧ (∀ i, i < h → ∀ y, Tj.Ed (adj tz kz rs kinds) (Q.getD i 0) y → c y = c (Q.getD i 0) → seen y = true) ∧ (∀ i, i < j → ∀ y, hdB tz kz kinds c y x ((rs.getD x []).getD i 0) = true → seen y = true))
            case atStart => exact ⟨0, seen, Q, Nat.zero_le _, rfl, rfl, hlt, HXQ.out, HBs.out, HBq.out, HA.out, HCC.out, fun i hi => absurd hi (by omega)⟩
            case round =>
              clear hcq HXQ HBs HBq HA HCC hQn hlt hhl
              obtain ⟨j, seen, Q, hjl, hgj, rfl, hlt, hxq, hBs, hBq, hA, hC, hD⟩ := hrel
              have HBs := Hid.mk' hBs
              have HBq := Hid.mk' hBq
              have HA := Hid.mk' hA
              have HCC := Hid.mk' hC
              have HDD := Hid.mk' hD
              have HXQ := Hid.mk' hxq
              have hb := hBq.below
              have hQn := hBs.le
              clear hBs hBq hA hC hD hxq
              by_cases hlt2 : j < rl
              · obtain ⟨wr2, rfl⟩ : ∃ V, V = wr := ⟨_, rfl⟩
                have kp : ∀ {a v}, V0.cell? a = some v → wr2.cell? a = some v := fun h => (hb.cell (World.block_lt_of_cell? V0 _ h)).trans h
                have hcr2 := kp hcr
                obtain ⟨zb, zoff, hra, hrc⟩ := hI.at_ (by omega)
                subst hra
                have hli : j < (rs.getD x []).length := by rw [hI.length]; exact hlt2
                have hE := HOK.out x hxn j hli
                obtain ⟨ee, heq⟩ := Int.eq_ofNat_of_zero_le hE.1
                have hcell := kp (hrc j hlt2)
                rw [heq] at hcell hE
                have heet : ee < kl := by have := hE.2.1; omega
                obtain ⟨kb, koff, hka, hkc⟩ := HKX.out.at_ (by omega)
                subst hka
                obtain ⟨tb, toff, hta, htc⟩ := HTX.out.at_ (by omega)
                subst hta
                have ckk := kp (hkc ee heet)
                have ctt := kp (htc ee heet)
                have HEQ := Hid.mk' heq
                have HEt : cts kinds (kz.getD ee 0) = true → 0 ≤ tz.getD ee 0 ∧ tz.getD ee 0 < n := by have := hE.2.2; simpa using this
                have HHD : Hid (∀ y, hdB tz kz kinds c y x ((rs.getD x []).getD j 0) = true ↔ cts kinds (kz.getD ee 0) = true ∧ (tz.getD ee 0).toNat = y ∧ c y = c x) := by intro y; rw [heq]; exact hd_iff
                have HED : Hid (cts kinds (kz.getD ee 0) = true → Tj.Ed (adj tz kz rs kinds) x (tz.getD ee 0).toNat) := fun h => ed_at hli heq h
                generalize kz.getD ee 0 = kk at ckk HEt HHD HED
                generalize tz.getD ee 0 = t at ctt HEt HHD HED
                clear hE heq hkc htc hrc
                have cx := kp (HC0.out.cell (i := x) hxn)
                clear hb
                have HGO : Hid (∀ seen' : Nat → Bool, (∀ y, seen y = true → seen' y = true) → (∀ y, hdB tz kz kinds c y x ((rs.getD x []).getD j 0) = true → seen' y = true) → ∀ i, i < j + 1 → ∀ y, hdB tz kz kinds c y x ((rs.getD x []).getD i 0) = true → seen' y = true) := by
                  intro seen' h1 h2 i hi y hy
                  by_cases e : i = j
                  · subst e; exact h2 y hy
                  · exact h1 y (HDD.out i (by omega) y hy)
                rcases Bool.eq_false_or_eq_true (cts kinds kk) with hct | hct
                · have hno : (bits BinOp.and IntKind.i64 kk kinds == 0) = false := by simpa [cts] using hct
                  obtain ⟨ht0, ht1⟩ := HEt hct
                  obtain ⟨y, rfl⟩ := Int.eq_ofNat_of_zero_le ht0
                  have hyn : y < n := by omega
                  have cy := kp (HC0.out.cell (i := y) hyn)
                  have cs := HBq.out.seen.cell (i := y) hyn
                  have HH2 : Hid (∀ y', hdB tz kz kinds c y' x ((rs.getD x []).getD j 0) = true → y' = y ∧ c y' = c x) := by
                    intro y' hy'
                    obtain ⟨_, h2, h3⟩ := (HHD.out y').1 hy'
                    exact ⟨by simpa using h2.symm, h3⟩
                  clear HEt HHD HED kp
                  by_cases hcc : c y = c x
                  · rcases Bool.eq_false_or_eq_true (seen y) with hs | hs
                    · as_aux_lemma =>
                        rw [hs] at cs
                        have hcb : (((c y : Nat) : Int) != ((c x : Nat) : Int)) = false := by simp; omega
                        go_upto_region 66 with fail
                        go_cut [276] from 235 to 283 (fun s276 wd => s276 = .bool true ∧ Bq V0 wd V0.heap.size n seen u22 Q)
                        case first =>
                          go_quiet (fail)
                          go_wp2
                          go_meet
                          case rel => exact ⟨by first | rfl | (simp [hcb]; done) | (simp; done), HBq.out.drewN _⟩
                        case rest =>
                          obtain ⟨rfl, hBq⟩ := hcut
                          clear hcr2 hcell ckk ctt cx cy cs
                          go_wp2
                          go_roundg (rl - (j + 1))
                          case rel => exact ⟨j + 1, seen, Q, by omega, by omega, by go_num, hlt, HXQ.out, HBs.out, hBq, HA.out, HCC.out, HGO.out seen (fun _ h => h) (fun y' hy' => by rw [(HH2.out y' hy').1]; exact hs)⟩
                          case measure => omega
                    · as_aux_lemma =>
                        rw [hs] at cs
                        have hcb : (((c y : Nat) : Int) != ((c x : Nat) : Int)) = false := by simp; omega
                        have hql := HBs.out.lt_n y hyn hs
                        go_upto_region 66 with fail
                        go_cut [276] from 235 to 283 (fun s276 wd => s276 = .bool false ∧ Bq V0 wd V0.heap.size n seen u22 Q)
                        case first =>
                          go_quiet (fail)
                          go_wp2
                          go_meet
                          case rel => exact ⟨by first | rfl | (simp [hcb]; done) | (simp; done), HBq.out.drewN _⟩
                        case rest =>
                          obtain ⟨rfl, hBq⟩ := hcut
                          clear hcr2 hcell ckk ctt cx cy cs
                          have cs := hBq.seen.cell (i := y) hyn
                          have cf := hBq.seen.frozen y
                          have HQ2 := Hid.mk' (hBq.mark y)
                          clear hBq
                          go_upto_region 68 with fail
                          clear cs cf
                          generalize wc.setCell ⟨V0.heap.size, y, none⟩ (.bool true) = wr3 at HQ2 ⊢
                          have hsz : V0.heap.size + 1 ≤ wr3.heap.size := by have := HQ2.out.seen.lt; omega
                          go_wp2_with (at_builtin; refine wpList_append_own_at _ (by rfl) _ _ 48 (by rfl) (V0.heap.size + 1) 21 i0 (.int .i32 0) 1 4 Try.underlying48 hi hz0 hz1 hz2 rfl (by decide) _ _ _ (by rfl) (HQ2.out.que.alloc _) ⟨_, 0, none⟩ 1 1 [.int .i32 y] (by rfl) rfl (cell_one_new' _ _ _ _ (by simp)) (fun x hx => by simp at hx; subst hx; rfl) (by unfold maxLen; omega) (by omega) (by simp; omega) ?_; intro v1 w3 hown1 hgrow3 _ hat3)
                          go_roundg (rl - (j + 1))
                          case rel =>
                            have hmono : ∀ v, seen v = true → Tj.upd seen y true v = true := by
                              intro v hv
                              by_cases e : v = y
                              · rw [e]; exact Tj.upd_same _ _ _
                              · rw [Tj.upd_other _ _ _ _ e]; exact hv
                            refine ⟨j + 1, Tj.upd seen y true, Q ++ [y], by omega, by omega, by go_num, by simp; omega, by rw [getD_snoc Q y h hlt]; exact HXQ.out, HBs.out.add y hyn hs, (HQ2.out.alloc _).push hown1 hgrow3, fun f hf => hmono _ (HA.out f hf), fun i hi y' hy' hc' => ?_, HGO.out _ hmono (fun y' hy' => by rw [(HH2.out y' hy').1]; exact Tj.upd_same _ _ _)⟩
                            rw [getD_snoc Q y i (by omega)] at hy' hc'
                            exact hmono _ (HCC.out i hi y' hy' hc')
                          case measure => omega
                  · as_aux_lemma =>
                      have hcb : (((c y : Nat) : Int) != ((c x : Nat) : Int)) = true := by simp; omega
                      go_upto_region 66 with fail
                      go_cut [276] from 235 to 283 (fun s276 wd => s276 = .bool true ∧ Bq V0 wd V0.heap.size n seen u22 Q)
                      case first =>
                        go_quiet (fail)
                        go_wp2
                        go_meet
                        case rel => exact ⟨by first | rfl | (simp [hcb]; done) | (simp; done), HBq.out.drewN _⟩
                      case rest =>
                        obtain ⟨rfl, hBq⟩ := hcut
                        clear hcr2 hcell ckk ctt cx cy cs
                        go_wp2
                        go_roundg (rl - (j + 1))
                        case rel => exact ⟨j + 1, seen, Q, by omega, by omega, by go_num, hlt, HXQ.out, HBs.out, hBq, HA.out, HCC.out, HGO.out seen (fun _ h => h) (fun y' hy' => absurd (by rw [← (HH2.out y' hy').1]; exact (HH2.out y' hy').2) hcc)⟩
                        case measure => omega
                · as_aux_lemma =>
                    have hno : (bits BinOp.and IntKind.i64 kk kinds == 0) = true := by simpa [cts] using hct
                    have HH2 : Hid (∀ y', hdB tz kz kinds c y' x ((rs.getD x []).getD j 0) = true → False) := by
                      intro y' hy'
                      have := ((HHD.out y').1 hy').1
                      rw [hct] at this
                      cases this
                    clear HEt HHD HED kp
                    go_wp2
                    go_roundg (rl - (j + 1))
                    case rel => exact ⟨j + 1, seen, Q, by omega, by omega, by go_num, hlt, HXQ.out, HBs.out, HBq.out, HA.out, HCC.out, HGO.out seen (fun _ h => h) (fun y' hy' => (HH2.out y' hy').elim)⟩
                    case measure => omega
              · have hcr1 := (hb.cell (World.block_lt_of_cell? V0 _ hcr)).trans hcr
                have hjr : j = rl := by omega
                go_wp2
                go_roundg (n - (h + 1))
                case rel =>
                  refine ⟨h + 1, seen, Q, by omega, by omega, by go_num, HBs.out, HBq.out, HA.out, fun i hi y hy hc => ?_⟩
                  by_cases e : i = h
                  · subst e
                    rw [HXQ.out] at hy hc
                    obtain ⟨i', h1, h2⟩ := ed_hd hy hc
                    exact HDD.out i' (by rw [hI.length] at h1; omega) y h2
                  · exact HCC.out i (by omega) y hy hc
                case measure => omega
          · obtain ⟨qa, qc, hvq⟩ := HBq.out.form
            subst hvq
            go_wp2
            go_meet
            case rel =>
              refine ⟨seen, Q, HBq.out, fwd_all HFN.out HDOM.out r seen HRR.out HA.out (fun x y hx hy hc => ?_)⟩
              obtain ⟨i, h1, h2⟩ := mem_getD (HBs.out.mem x hx)
              exact HCC.out i (by omega) y (by rw [h2]; exact hy) (by rw [h2]; exact hc)
    case rest =>
    obtain ⟨seen1, Q1, hBq1, hS1⟩ := hcut
    have HBq1 := Hid.mk' hBq1
    have HS1 := Hid.mk' hS1
    clear hBq1 hS1 HBs0 HBq0 HA0
    obtain ⟨W12, rfl⟩ : ∃ V, V = wc := ⟨_, rfl⟩
    obtain ⟨vq1, rfl⟩ : ∃ V, V = u22 := ⟨_, rfl⟩
    go_upto_block 18 with fail
    go_cut [29] from 284 to 293 (fun s29 wd => wd = W12)
    case first =>
      as_aux_lemma =>
        go_wp2_with fail
        go_loopg [29] n (fun gk i wr => ∃ m : Nat, m ≤ n ∧ gk + m = n ∧ i = .int .i64 m ∧ wr = W12)
        case atStart => exact ⟨0, Nat.zero_le _, rfl, rfl, rfl⟩
        case round =>
          obtain ⟨m, hmn, hgm, rfl, hwr⟩ := hrel
          subst hwr
          by_cases hlt : m < n
          · have hc := HBq1.out.seen.cell (i := m) hlt
            simp only [HS1.out m hlt] at hc
            go_wp2
            go_roundg (n - (m + 1))
            case rel => exact ⟨m + 1, by omega, by omega, by go_num, rfl⟩
            case measure => omega
          · go_wp2
            go_meet
            case rel => rfl
    case rest =>
    subst hcut
    obtain ⟨V1, rfl⟩ : ∃ V, V = wc := ⟨_, rfl⟩
    have HQ1 : Hid (V1.ownsRow (V0.heap.size + 1) 21 1 vq1 Q1.length (Q1.map iv)) := HBq1.out.que
    have HB1 : Hid (Below V0.heap.size V0 V1) := HBq1.out.below
    have HT1 := Hid.mk' (HT0.out.later HB1.out)
    have HK1 := Hid.mk' (HK0.out.later HB1.out)
    have HO1 := Hid.mk' (HO0.out.later HB1.out)
    have HC1 : Hid (V1.rowIs rb 21 n (fun i => iv (c i))) := HC0.out.of_block (HB1.out.block _ HC0.out.lt)
    have HEC : Hid (∀ y x i, y < n → x < n → ecn tz kz rs kinds c y x i ≤ 1099511627776) := by
      intro y x i hy hx
      have h1 := ecn_le (tz := tz) (kz := kz) (rs := rs) (kinds := kinds) (c := c) n y x i hx
      have h2 := rsum_part (fun y => ecn tz kz rs kinds c y n 0) n y hy
      have h3 := ecn_sum (tz := tz) (kz := kz) (rs := rs) (kinds := kinds) (c := c) n HR2.out n (Nat.le_refl _)
      omega
    have HSN : Hid (Tj.rsum (fun y => ecn tz kz rs kinds c y n 0) n ≤ 1099511627776) := by
      have h3 := ecn_sum (tz := tz) (kz := kz) (rs := rs) (kinds := kinds) (c := c) n HR2.out n (Nat.le_refl _)
      show _ ≤ _
      omega
    clear HBq1 HS1 HT0 HK0 HC0
    have hmkA : ∀ w, (Instr.makeSlice 62 (.int .i64 ((n : Int) + 1)) (.int .i64 ((n : Int) + 1))).run Try.prog w = .ok (.slice (some ⟨w.heap.size, 0, none⟩) (n + 1) (n + 1)) (w.alloc (.cells (madeCells #[.int .i64 0] (n + 1)) 3)) := by
      intro w
      have := run_make_row' (P := Try.prog) 62 3 (.int .i64 0) 8 Try.underlying62 Try.info3 rfl .i64 .i64 (n + 1) (by omega) (by omega) w
      simpa using this
    go_upto_block 20 with fail
    clear hmkA
    go_cut [31, 32, 33] from 297 to 348 (fun s31 s32 s33 wd => Below V1.heap.size V1 wd ∧ wd.rowIs V1.heap.size 3 (n + 1) (fun j => .int .i64 (stA (fun y => ecn tz kz rs kinds c y n 0) j)))
    case first =>
      as_aux_lemma =>
        have HKX := HK1
        have HTX := HT1
        go_wp2_with fail
        go_loopg [31] n (fun gk i wr => ∃ m : Nat, m ≤ n ∧ gk + m = n ∧ i = .int .i64 m ∧ Below V1.heap.size V1 wr ∧ wr.rowIs V1.heap.size 3 (n + 1) (fun j => .int .i64 (stA (fun y => ecn tz kz rs kinds c y m 0) j)))
        case atStart =>
          refine ⟨0, Nat.zero_le _, rfl, rfl, (Below.refl _ _).alloc (Nat.le_refl _) _, (World.rowIs_made V1 (.int .i64 0) (n + 1) 3).congr (fun j _ => ?_)⟩
          unfold stA
          split
          · rfl
          · simp only [ecn_zero]; rfl
        case round =>
          obtain ⟨m, hmn, hgm, rfl, hb, hrow⟩ := hrel
          by_cases hlt : m < n
          · obtain ⟨ob, ooff, hoa, hrw⟩ := HO1.out.at_ (by omega)
            subst hoa
            obtain ⟨ra, rl, rc, hcr, hI⟩ := hrw m hlt
            have hll : rl ≤ 1048576 := by have := HR2.out m hlt; rw [hI.length] at this; exact this
            clear hrw
            go_wp2_with fail
            go_loopg [32] rl (fun gk i wr => ∃ j : Nat, j ≤ rl ∧ gk + j = rl ∧ i = .int .i64 j ∧ Below V1.heap.size V1 wr ∧ wr.rowIs V1.heap.size 3 (n + 1) (fun q => .int .i64 (stA (fun y => ecn tz kz rs kinds c y m j) q)))
            case atStart => exact ⟨0, Nat.zero_le _, rfl, rfl, hb, hrow⟩
            case round =>
              clear hb hrow
              obtain ⟨j, hjl, hgj, rfl, hb, hrow⟩ := hrel
              by_cases hlt2 : j < rl
              · obtain ⟨wr2, rfl⟩ : ∃ V, V = wr := ⟨_, rfl⟩
                have kp : ∀ {a v}, V1.cell? a = some v → wr2.cell? a = some v := fun h => (hb.cell (World.block_lt_of_cell? V1 _ h)).trans h
                have hcr2 := kp hcr
                obtain ⟨zb, zoff, hra, hrc⟩ := hI.at_ (by omega)
                subst hra
                have hli : j < (rs.getD m []).length := by rw [hI.length]; exact hlt2
                have hE := HOK.out m hlt j hli
                obtain ⟨ee, heq⟩ := Int.eq_ofNat_of_zero_le hE.1
                have hcell := kp (hrc j hlt2)
                rw [heq] at hcell hE
                have heet : ee < kl := by have := hE.2.1; omega
                obtain ⟨kb, koff, hka, hkc⟩ := HKX.out.at_ (by omega)
                subst hka
                obtain ⟨tb, toff, hta, htc⟩ := HTX.out.at_ (by omega)
                subst hta
                have ckk := kp (hkc ee heet)
                have ctt := kp (htc ee heet)
                have HEQ := Hid.mk' heq
                have HEt : cts kinds (kz.getD ee 0) = true → 0 ≤ tz.getD ee 0 ∧ tz.getD ee 0 < n := by have := hE.2.2; simpa using this
                have HHD : Hid (∀ y, hdB tz kz kinds c y m ((rs.getD m []).getD j 0) = true ↔ cts kinds (kz.getD ee 0) = true ∧ (tz.getD ee 0).toNat = y ∧ c y = c m) := by intro y; rw [heq]; exact hd_iff
                have HED : Hid (cts kinds (kz.getD ee 0) = true → Tj.Ed (adj tz kz rs kinds) m (tz.getD ee 0).toNat) := fun h => ed_at hli heq h
                generalize kz.getD ee 0 = kk at ckk HEt HHD HED
                generalize hte : tz.getD ee 0 = t at ctt HEt HHD HED
                have HTE := Hid.mk' hte
                clear hte
                have htc2 := htc
                clear hE heq hkc htc hrc
                have cx := kp (HC1.out.cell (i := m) hlt)
                have HB := Hid.mk' hb
                have HROW := Hid.mk' hrow
                have HLI := Hid.mk' hli
                clear hb hrow hli
                rcases Bool.eq_false_or_eq_true (cts kinds kk) with hct | hct
                · have hno : (bits BinOp.and IntKind.i64 kk kinds != 0) = true := by simpa [cts] using hct
                  obtain ⟨ht0, ht1⟩ := HEt hct
                  obtain ⟨y, rfl⟩ := Int.eq_ofNat_of_zero_le ht0
                  have hyn : y < n := by omega
                  have cy := kp (HC1.out.cell (i := y) hyn)
                  have HCT := Hid.mk' hct
                  clear HEt HED kp hct
                  by_cases hcc : c y = c m
                  · as_aux_lemma =>
                      have hcb : (((c y : Nat) : Int) == ((c m : Nat) : Int)) = true := by simp; omega
                      have HCCC := Hid.mk' hcc
                      clear hcc
                      go_upto_region 82 with fail
                      go_cut [338] from 302 to 348 (fun s338 wd => s338 = .bool true ∧ Below V1.heap.size V1 wd ∧ wd.rowIs V1.heap.size 3 (n + 1) (fun q => .int .i64 (stA (fun y => ecn tz kz rs kinds c y m j) q)))
                      case first =>
                        go_quiet (fail)
                        go_wp2
                        go_meet
                        case rel => exact ⟨by first | rfl | (simp [*]; done) | (simp; done), below_drewN HB.out _, HROW.out⟩
                      case rest =>
                        obtain ⟨rfl, hb, hrow⟩ := hcut
                        have ltt : tb < V1.heap.size := World.block_lt_of_cell? V1 _ (htc2 ee heet)
                        have ctt2 := (hb.cell (p := ⟨tb, toff + ee, none⟩) ltt).trans (htc2 ee heet)
                        rw [HTE.out] at ctt2
                        have ca : wc.cell? ⟨V1.heap.size, y + 1, none⟩ = some (.int .i64 ((ecn tz kz rs kinds c y m j : Nat) : Int)) := by rw [hrow.cell (i := y + 1) (by omega)]; simp [stA]
                        have cf := hrow.frozen (y + 1)
                        have hne : tb ≠ V1.heap.size := by omega
                        have hE := HEC.out y m j hyn hlt
                        have HB3 := Hid.mk' hb
                        have HROW3 := Hid.mk' hrow
                        clear hb hrow hcr2 hcell ckk ctt cx cy
                        go_wp2
                        go_roundg (rl - (j + 1))
                        case rel =>
                          refine ⟨j + 1, by omega, by omega, by go_num, HB3.out.setCell (Nat.le_refl _) _, (HROW3.out.set (y + 1) _).congr (fun q _ => stA_one (ecn_one HLI.out (fun y' => ?_)) q)⟩
                          rw [HHD.out y']
                          constructor
                          · rintro ⟨_, h2, _⟩; simpa using h2.symm
                          · rintro rfl; exact ⟨HCT.out, by simp, HCCC.out⟩
                        case measure => omega
                  · as_aux_lemma =>
                      have hcb : (((c y : Nat) : Int) == ((c m : Nat) : Int)) = false := by simp; omega
                      go_upto_region 82 with fail
                      go_cut [338] from 302 to 348 (fun s338 wd => s338 = .bool false ∧ Below V1.heap.size V1 wd ∧ wd.rowIs V1.heap.size 3 (n + 1) (fun q => .int .i64 (stA (fun y => ecn tz kz rs kinds c y m j) q)))
                      case first =>
                        go_quiet (fail)
                        go_wp2
                        go_meet
                        case rel => exact ⟨by first | rfl | (simp [*]; done) | (simp; done), below_drewN HB.out _, HROW.out⟩
                      case rest =>
                        obtain ⟨rfl, hb, hrow⟩ := hcut
                        clear hcr2 hcell ckk ctt cx cy
                        go_wp2
                        go_roundg (rl - (j + 1))
                        case rel =>
                          refine ⟨j + 1, by omega, by omega, by go_num, hb, hrow.congr (fun q _ => ?_)⟩
                          have : (fun y => ecn tz kz rs kinds c y m (j + 1)) = (fun y => ecn tz kz rs kinds c y m j) := by
                            funext y'
                            refine ecn_none HLI.out (fun y2 h2 => ?_) y'
                            obtain ⟨_, h3, h4⟩ := (HHD.out y2).1 h2
                            have : y2 = y := by simpa using h3.symm
                            rw [this] at h4
                            exact hcc h4
                          rw [this]
                        case measure => omega
                · as_aux_lemma =>
                    have hno : (bits BinOp.and IntKind.i64 kk kinds != 0) = false := by simpa [cts] using hct
                    clear HEt HED kp
                    go_upto_region 82 with fail
                    go_cut [338] from 302 to 348 (fun s338 wd => s338 = .bool false ∧ Below V1.heap.size V1 wd ∧ wd.rowIs V1.heap.size 3 (n + 1) (fun q => .int .i64 (stA (fun y => ecn tz kz rs kinds c y m j) q)))
                    case first =>
                      go_quiet (fail)
                      go_wp2
                      go_meet
                      case rel => exact ⟨by first | rfl | (simp [*]; done) | (simp; done), below_drewN HB.out _, HROW.out⟩
                    case rest =>
                      obtain ⟨rfl, hb, hrow⟩ := hcut
                      clear hcr2 hcell ckk ctt cx
                      go_wp2
                      go_roundg (rl - (j + 1))
                      case rel =>
                        refine ⟨j + 1, by omega, by omega, by go_num, hb, hrow.congr (fun q _ => ?_)⟩
                        have : (fun y => ecn tz kz rs kinds c y m (j + 1)) = (fun y => ecn tz kz rs kinds c y m j) := by
                          funext y'
                          refine ecn_none HLI.out (fun y2 h2 => ?_) y'
                          have := ((HHD.out y2).1 h2).1
                          rw [hct] at this
                          cases this
                        rw [this]
                      case measure => omega
              · have hcr1 := (hb.cell (World.block_lt_of_cell? V1 _ hcr)).trans hcr
                have hjr : j = (rs.getD m []).length := by rw [hI.length]; omega
                have HJR := Hid.mk' hjr
                clear hjr
                go_wp2
                go_roundg (n - (m + 1))
                case rel =>
                  refine ⟨m + 1, by omega, by omega, by go_num, hb, hrow.congr (fun q _ => ?_)⟩
                  have : (fun y => ecn tz kz rs kinds c y m j) = (fun y => ecn tz kz rs kinds c y (m + 1) 0) := by
                    funext y'
                    rw [HJR.out]
                    exact ecn_row y' m
                  rw [this]
                case measure => omega
          · have hmn' : m = n := by omega
            subst hmn'
            go_wp2
            go_meet
            case rel => exact ⟨hb, hrow⟩
    case rest =>
    obtain ⟨hb, hrow⟩ := hcut
    have HB13 := Hid.mk' hb
    have HA13 := Hid.mk' hrow
    clear hb hrow
    obtain ⟨T, hT⟩ : ∃ T : Nat → Nat, T = fun y => ecn tz kz rs kinds c y n 0 := ⟨_, rfl⟩
    have HTT := Hid.mk' hT
    rw [← hT] at HA13 HSN
    clear hT
    obtain ⟨W13, rfl⟩ : ∃ V, V = wc := ⟨_, rfl⟩
    go_upto_block 24 with fail
    go_cut [34] from 349 to 364 (fun s34 wd => Below V1.heap.size V1 wd ∧ wd.rowIs V1.heap.size 3 (n + 1) (fun j => .int .i64 (Tj.rsum T j : Int)))
    case first =>
      as_aux_lemma =>
        go_wp2_with fail
        go_loopg [34] n (fun gk i wr => ∃ m : Nat, m ≤ n ∧ gk + m = n ∧ i = .int .i64 m ∧ Below V1.heap.size V1 wr ∧ wr.rowIs V1.heap.size 3 (n + 1) (fun j => .int .i64 (sumA T m j)))
        case atStart => exact ⟨0, Nat.zero_le _, rfl, rfl, HB13.out, HA13.out.congr (fun j _ => by rw [sumA_zero])⟩
        case round =>
          obtain ⟨m, hmn, hgm, rfl, hb, hrow⟩ := hrel
          by_cases hlt : m < n
          · have c1 : wr.cell? ⟨V1.heap.size, m + 1, none⟩ = some (.int .i64 (T m : Int)) := by
              rw [hrow.cell (i := m + 1) (by omega)]
              have h0 : ¬ m + 1 ≤ m := by omega
              simp [sumA, h0]
            have c0 : wr.cell? ⟨V1.heap.size, m, none⟩ = some (.int .i64 (Tj.rsum T m : Int)) := by rw [hrow.cell (i := m) (by omega)]; simp [sumA]
            have cf := hrow.frozen (m + 1)
            have hsum : Tj.rsum T m + T m ≤ 1099511627776 := by have := st_mono T (m + 1) n (by omega); have h2 : Tj.rsum T (m + 1) = Tj.rsum T m + T m := rfl; have := HSN.out; omega
            have HBB : Hid (Below V1.heap.size V1 (wr.setCell ⟨V1.heap.size, m + 1, none⟩ (.int .i64 ((T m : Int) + (Tj.rsum T m : Int))))) := hb.setCell (Nat.le_refl _) _
            have HRW : Hid ((wr.setCell ⟨V1.heap.size, m + 1, none⟩ (.int .i64 ((T m : Int) + (Tj.rsum T m : Int)))).rowIs V1.heap.size 3 (n + 1) (fun j => .int .i64 (sumA T (m + 1) j))) := (hrow.set (m + 1) _).congr (fun j _ => sumA_step T m j)
            clear hb hrow
            generalize Tj.rsum T m = sm at c0 hsum HBB HRW
            generalize T m = tm at c1 hsum HBB HRW
            go_upto_block 25 with fail
            go_cut [34] from 354 to 364 (fun s34 wd => s34 = .int .i64 m ∧ Below V1.heap.size V1 wd ∧ wd.rowIs V1.heap.size 3 (n + 1) (fun j => .int .i64 (sumA T (m + 1) j)))
            case first =>
              go_wp2_with fail
              go_region
              all_goals
                go_wp2_with fail
                go_meet
                case rel => exact ⟨rfl, HBB.out.drew, HRW.out⟩
            case rest =>
              clear c0 c1 cf HBB HRW
              obtain ⟨rfl, hb, hrow⟩ := hcut
              go_wp2
              go_roundg (n - (m + 1))
              case rel => exact ⟨m + 1, by omega, by omega, by go_num, hb, hrow⟩
              case measure => omega
          · have hmn' : m = n := by omega
            subst hmn'
            go_wp2
            go_meet
            case rel => exact ⟨hb, hrow.congr (fun j hj => by simp only [sumA]; rw [if_pos (by omega)])⟩
    case rest =>
    obtain ⟨hb, hrow⟩ := hcut
    have HB14 := Hid.mk' hb
    have HA14 := Hid.mk' hrow
    clear hb hrow HB13 HA13
    obtain ⟨W14, rfl⟩ : ∃ V, V = wc := ⟨_, rfl⟩
    have hmkF := fun w => run_make_row' (P := Try.prog) 62 3 (.int .i64 0) 8 Try.underlying62 Try.info3 rfl .i64 .i64 n (by omega) (by omega) w
    go_upto_block 26 with fail
    clear hmkF
    go_cut [36] from 367 to 378 (fun s36 wd => Below V1.heap.size V1 wd ∧ wd.rowIs V1.heap.size 3 (n + 1) (fun j => .int .i64 (Tj.rsum T j : Int)) ∧ wd.rowIs W14.heap.size 3 n (fun j => .int .i64 (Tj.rsum T j : Int)))
    case first =>
      as_aux_lemma =>
        have hne : V1.heap.size < W14.heap.size := HA14.out.lt
        have hne2 : V1.heap.size ≠ W14.heap.size := by omega
        have hne3 : W14.heap.size ≠ V1.heap.size := by omega
        go_wp2_with fail
        go_loopg [36] n (fun gk i wr => ∃ m : Nat, m ≤ n ∧ gk + m = n ∧ i = .int .i64 m ∧ Below V1.heap.size V1 wr ∧ wr.rowIs V1.heap.size 3 (n + 1) (fun j => .int .i64 (Tj.rsum T j : Int)) ∧ wr.rowIs W14.heap.size 3 n (fun j => .int .i64 (if j < m then (Tj.rsum T j : Int) else 0)))
        case atStart => exact ⟨0, Nat.zero_le _, rfl, rfl, HB14.out.alloc HB14.out.size _, HA14.out.alloc _, (World.rowIs_made W14 (.int .i64 0) n 3).congr (fun j _ => by simp)⟩
        case round =>
          obtain ⟨m, hmn, hgm, rfl, hb, hrow, hfil⟩ := hrel
          by_cases hlt : m < n
          · have c0 := hrow.cell (i := m) (by omega)
            have c1 := hfil.cell (i := m) hlt
            have cf := hfil.frozen m
            have HBB := Hid.mk' hb
            have HRW := Hid.mk' hrow
            have HFI := Hid.mk' hfil
            clear hb hrow hfil
            go_wp2
            go_roundg (n - (m + 1))
            case rel =>
              refine ⟨m + 1, by omega, by omega, by go_num, HBB.out.setCell (by simp; omega) _, HRW.out.setOther (by simp; omega) _, (HFI.out.set m _).congr (fun j _ => ?_)⟩
              by_cases hjk : j = m
              · subst hjk; simp
              · by_cases h2 : j < m
                · simp [hjk, h2, Nat.lt_succ_of_lt h2]
                · have : ¬ j < m + 1 := by omega
                  simp [hjk, h2, this]
            case measure => omega
          · go_wp2
            go_meet
            case rel => exact ⟨hb, hrow, hfil.congr (fun j hj => by rw [if_pos (by omega)])⟩
    case rest =>
    obtain ⟨hb, hrow, hfil⟩ := hcut
    have HB15 := Hid.mk' hb
    have HA15 := Hid.mk' hrow
    have HF15 := Hid.mk' hfil
    have hfb : V1.heap.size < W14.heap.size := HA14.out.lt
    clear hb hrow hfil HB14 HA14
    generalize W14.heap.size = fb at HF15 hfb ⊢
    obtain ⟨W15, rfl⟩ : ∃ V, V = wc := ⟨_, rfl⟩
    have hSN := HSN.out
    have hmkZ := fun w => run_make_row' (P := Try.prog) 48 21 (.int .i32 0) 4 Try.underlying48 Try.info21 rfl .i64 .i64 (Tj.rsum T n) (by omega) (by omega) w
    have cAn := HA15.out.cell (i := n) (by omega)
    go_upto_block 28 with fail
    clear hmkZ cAn
    go_cut [38, 39, 40, 41] from 384 to 443 (fun s38 s39 s40 s41 wd => Below V1.heap.size V1 wd ∧ wd.rowIs V1.heap.size 3 (n + 1) (fun j => .int .i64 (Tj.rsum T j : Int)) ∧ ∃ Z : Nat → Nat, wd.rowIs W15.heap.size 21 (Tj.rsum T n) (fun j => iv (Z j)) ∧ (∀ j, j < Tj.rsum T n → Z j < n) ∧ Lists tz kz rs kinds c (Tj.rsum T) n Z n 0)
    case first =>
      as_aux_lemma =>
        have HKX := HK1
        have HTX := HT1
        have hfz : fb < W15.heap.size := HF15.out.lt
        have z1 : V1.heap.size ≠ fb := by omega
        have z2 : V1.heap.size ≠ W15.heap.size := by omega
        have z3 : fb ≠ W15.heap.size := by omega
        have z1' : fb ≠ V1.heap.size := by omega
        have z2' : W15.heap.size ≠ V1.heap.size := by omega
        have z3' : W15.heap.size ≠ fb := by omega
        go_wp2_with fail
        go_loopg [38] n (fun gk i wr => ∃ (m : Nat) (Z : Nat → Nat), m ≤ n ∧ gk + m = n ∧ i = .int .i64 m ∧ (Below V1.heap.size V1 wr ∧ wr.rowIs V1.heap.size 3 (n + 1) (fun j => .int .i64 (Tj.rsum T j : Int)) ∧ wr.rowIs fb 3 n (fun q => .int .i64 ((Tj.rsum T q + ecn tz kz rs kinds c q m 0 : Nat) : Int)) ∧ wr.rowIs W15.heap.size 21 (Tj.rsum T n) (fun j => iv (Z j))) ∧ (∀ j, j < Tj.rsum T n → Z j < n) ∧ Lists tz kz rs kinds c (Tj.rsum T) n Z m 0)
        case atStart =>
          refine ⟨0, fun _ => 0, Nat.zero_le _, rfl, rfl, ⟨HB15.out.alloc HB15.out.size _, HA15.out.alloc _, (HF15.out.alloc _).congr (fun q _ => by simp [ecn_zero]), (World.rowIs_made W15 (.int .i32 0) (Tj.rsum T n) 21).congr (fun j _ => rfl)⟩, fun j hj => ?_, fun x' i' y h1 => by rcases h1 with h1 | ⟨_, h1⟩ <;> omega⟩
          rcases Nat.eq_zero_or_pos n with e | e
          · rw [e] at hj; simp [Tj.rsum] at hj
          · exact e
        case round =>
          obtain ⟨m, Z, hmn, hgm, rfl, ⟨hb, hrow, hfil, hsrc⟩, hZ, hLi⟩ := hrel
          have HZ := Hid.mk' hZ
          have HLi := Hid.mk' hLi
          clear hZ hLi
          by_cases hlt : m < n
          · obtain ⟨ob, ooff, hoa, hrw⟩ := HO1.out.at_ (by omega)
            subst hoa
            obtain ⟨ra, rl, rc, hcr, hI⟩ := hrw m hlt
            have hll : rl ≤ 1048576 := by have := HR2.out m hlt; rw [hI.length] at this; exact this
            clear hrw
            go_wp2_with fail
            go_loopg [39] rl (fun gk i wr => ∃ (j : Nat) (Z : Nat → Nat), j ≤ rl ∧ gk + j = rl ∧ i = .int .i64 j ∧ (Below V1.heap.size V1 wr ∧ wr.rowIs V1.heap.size 3 (n + 1) (fun q => .int .i64 (Tj.rsum T q : Int)) ∧ wr.rowIs fb 3 n (fun q => .int .i64 ((Tj.rsum T q + ecn tz kz rs kinds c q m j : Nat) : Int)) ∧ wr.rowIs W15.heap.size 21 (Tj.rsum T n) (fun q => iv (Z q))) ∧ (∀ q, q < Tj.rsum T n → Z q < n) ∧ Lists tz kz rs kinds c (Tj.rsum T) n Z m j)
            case atStart => exact ⟨0, Z, Nat.zero_le _, rfl, rfl, ⟨hb, hrow, hfil, hsrc⟩, HZ.out, HLi.out⟩
            case round =>
              clear hb hrow hfil hsrc HZ HLi
              obtain ⟨j, Z, hjl, hgj, rfl, ⟨hb, hrow, hfil, hsrc⟩, hZ, hLi⟩ := hrel
              have HZ := Hid.mk' hZ
              have HLi := Hid.mk' hLi
              clear hZ hLi
              by_cases hlt2 : j < rl
              · obtain ⟨wr2, rfl⟩ : ∃ V, V = wr := ⟨_, rfl⟩
                have kp : ∀ {a v}, V1.cell? a = some v → wr2.cell? a = some v := fun h => (hb.cell (World.block_lt_of_cell? V1 _ h)).trans h
                have hcr2 := kp hcr
                obtain ⟨zb, zoff, hra, hrc⟩ := hI.at_ (by omega)
                subst hra
                have hli : j < (rs.getD m []).length := by rw [hI.length]; exact hlt2
                have hE := HOK.out m hlt j hli
                obtain ⟨ee, heq⟩ := Int.eq_ofNat_of_zero_le hE.1
                have hcell := kp (hrc j hlt2)
                rw [heq] at hcell hE
                have heet : ee < kl := by have := hE.2.1; omega
                obtain ⟨kb, koff, hka, hkc⟩ := HKX.out.at_ (by omega)
                subst hka
                obtain ⟨tb, toff, hta, htc⟩ := HTX.out.at_ (by omega)
                subst hta
                have ckk := kp (hkc ee heet)
                have ctt := kp (htc ee heet)
                have HEQ := Hid.mk' heq
                have HEt : cts kinds (kz.getD ee 0) = true → 0 ≤ tz.getD ee 0 ∧ tz.getD ee 0 < n := by have := hE.2.2; simpa using this
                have HHD : Hid (∀ y, hdB tz kz kinds c y m ((rs.getD m []).getD j 0) = true ↔ cts kinds (kz.getD ee 0) = true ∧ (tz.getD ee 0).toNat = y ∧ c y = c m) := by intro y; rw [heq]; exact hd_iff
                have HED : Hid (cts kinds (kz.getD ee 0) = true → Tj.Ed (adj tz kz rs kinds) m (tz.getD ee 0).toNat) := fun h => ed_at hli heq h
                generalize kz.getD ee 0 = kk at ckk HEt HHD HED
                generalize hte : tz.getD ee 0 = t at ctt HEt HHD HED
                have HTE := Hid.mk' hte
                clear hte
                have htc2 := htc
                clear hE heq hkc htc hrc
                have cx := kp (HC1.out.cell (i := m) hlt)
                have HB := Hid.mk' hb
                have HROW := Hid.mk' hrow
                have HFIL := Hid.mk' hfil
                have HSRC := Hid.mk' hsrc
                have HLI := Hid.mk' hli
                clear hb hrow hfil hsrc hli
                rcases Bool.eq_false_or_eq_true (cts kinds kk) with hct | hct
                · have hno : (bits BinOp.and IntKind.i64 kk kinds != 0) = true := by simpa [cts] using hct
                  obtain ⟨ht0, ht1⟩ := HEt hct
                  obtain ⟨y, rfl⟩ := Int.eq_ofNat_of_zero_le ht0
                  have hyn : y < n := by omega
                  have cy := kp (HC1.out.cell (i := y) hyn)
                  have HCT := Hid.mk' hct
                  clear HEt HED kp hct
                  by_cases hcc : c y = c m
                  · as_aux_lemma =>
                      have hcb : (((c y : Nat) : Int) == ((c m : Nat) : Int)) = true := by simp; omega
                      have HONE : Hid (∀ y', hdB tz kz kinds c y' m ((rs.getD m []).getD j 0) = true ↔ y' = y) := by
                        intro y'
                        rw [HHD.out y']
                        constructor
                        · rintro ⟨_, h2, _⟩; simpa using h2.symm
                        · rintro rfl; exact ⟨HCT.out, by simp, hcc⟩
                      clear hcc HHD
                      go_upto_region 101 with fail
                      go_cut [425] from 389 to 443 (fun s425 wd => s425 = .bool true ∧ Below V1.heap.size V1 wd ∧ wd.rowIs V1.heap.size 3 (n + 1) (fun j => .int .i64 (Tj.rsum T j : Int)) ∧ wd.rowIs fb 3 n (fun q => .int .i64 ((Tj.rsum T q + ecn tz kz rs kinds c q m j : Nat) : Int)) ∧ wd.rowIs W15.heap.size 21 (Tj.rsum T n) (fun j => iv (Z j)))
                      case first =>
                        go_quiet (fail)
                        go_wp2
                        go_meet
                        case rel => exact ⟨by first | rfl | (simp [*]; done) | (simp; done), below_drewN HB.out _, HROW.out, HFIL.out, HSRC.out⟩
                      case rest =>
                        obtain ⟨rfl, hb, hrow, hfil, hsrc⟩ := hcut
                        have ltt : tb < V1.heap.size := World.block_lt_of_cell? V1 _ (htc2 ee heet)
                        have ctt2 := (hb.cell (p := ⟨tb, toff + ee, none⟩) ltt).trans (htc2 ee heet)
                        rw [HTE.out] at ctt2
                        have hone := ecn_one HLI.out HONE.out
                        have hP : Tj.rsum T y + ecn tz kz rs kinds c y m j < Tj.rsum T n := by
                          have h1 := ecn_le (tz := tz) (kz := kz) (rs := rs) (kinds := kinds) (c := c) n y m (j + 1) hlt
                          have h2 := hone y
                          rw [if_pos rfl] at h2
                          have h3 : Tj.rsum T (y + 1) = Tj.rsum T y + T y := rfl
                          have h4 := st_mono T (y + 1) n (by omega)
                          have h5 : T y = ecn tz kz rs kinds c y n 0 := by rw [HTT.out]
                          omega
                        have cfil := hfil.cell (i := y) hyn
                        have ffil := hfil.frozen y
                        have csrc := hsrc.cell (i := Tj.rsum T y + ecn tz kz rs kinds c y m j) hP
                        have fsrc := hsrc.frozen (Tj.rsum T y + ecn tz kz rs kinds c y m j)
                        have HB3 := Hid.mk' hb
                        have HROW3 := Hid.mk' hrow
                        have HNW : Hid (∃ Z' : Nat → Nat, ((Below V1.heap.size V1 ((wc.setCell ⟨W15.heap.size, Tj.rsum T y + ecn tz kz rs kinds c y m j, none⟩ (.int .i32 m)).setCell ⟨fb, y, none⟩ (.int .i64 (((Tj.rsum T y + ecn tz kz rs kinds c y m j : Nat) : Int) + 1))) ∧ ((wc.setCell ⟨W15.heap.size, Tj.rsum T y + ecn tz kz rs kinds c y m j, none⟩ (.int .i32 m)).setCell ⟨fb, y, none⟩ (.int .i64 (((Tj.rsum T y + ecn tz kz rs kinds c y m j : Nat) : Int) + 1))).rowIs V1.heap.size 3 (n + 1) (fun q => .int .i64 (Tj.rsum T q : Int)) ∧ ((wc.setCell ⟨W15.heap.size, Tj.rsum T y + ecn tz kz rs kinds c y m j, none⟩ (.int .i32 m)).setCell ⟨fb, y, none⟩ (.int .i64 (((Tj.rsum T y + ecn tz kz rs kinds c y m j : Nat) : Int) + 1))).rowIs fb 3 n (fun q => .int .i64 ((Tj.rsum T q + ecn tz kz rs kinds c q m (j + 1) : Nat) : Int)) ∧ ((wc.setCell ⟨W15.heap.size, Tj.rsum T y + ecn tz kz rs kinds c y m j, none⟩ (.int .i32 m)).setCell ⟨fb, y, none⟩ (.int .i64 (((Tj.rsum T y + ecn tz kz rs kinds c y m j : Nat) : Int) + 1))).rowIs W15.heap.size 21 (Tj.rsum T n) (fun q => iv (Z' q))) ∧ (∀ q, q < Tj.rsum T n → Z' q < n) ∧ Lists tz kz rs kinds c (Tj.rsum T) n Z' m (j + 1))) := by
                          refine ⟨Tj.upd Z (Tj.rsum T y + ecn tz kz rs kinds c y m j) m, ⟨(hb.setCell (by simp; omega) _).setCell (by simp; omega) _, (hrow.setOther (by simp; omega) _).setOther (by simp; omega) _, ((hfil.setOther (by simp; omega) _).set y _).congr (fun q _ => ?_), ((hsrc.set _ _).congr (fun q _ => ?_)).setOther (by simp; omega) _⟩, fun q hq => ?_, Lists.one HTT.out HLi.out hlt HLI.out HONE.out⟩
                          · by_cases e : q = y
                            · subst e
                              rw [if_pos rfl, hone q, if_pos rfl]
                              first | rfl | (congr 1; omega) | (congr 2; omega)
                            · rw [if_neg e, hone q, if_neg e]
                          · unfold Tj.upd
                            split <;> rfl
                          · unfold Tj.upd
                            split
                            · exact hlt
                            · exact HZ.out q hq
                        have hPb : Tj.rsum T y + ecn tz kz rs kinds c y m j ≤ 1099511627776 := by omega
                        clear hb hrow hfil hsrc hcr2 hcell ckk ctt cx cy hone
                        generalize Tj.rsum T y + ecn tz kz rs kinds c y m j = PP at hP cfil csrc fsrc HNW hPb
                        have q1 : tb ≠ W15.heap.size := by omega
                        have q2 : tb ≠ fb := by omega
                        go_wp2
                        go_roundg (rl - (j + 1))
                        case rel =>
                          obtain ⟨Z', h1, h2, h3⟩ := HNW.out
                          exact ⟨j + 1, Z', by omega, by omega, by go_num, h1, h2, h3⟩
                        case measure => omega
                  · as_aux_lemma =>
                      have hcb : (((c y : Nat) : Int) == ((c m : Nat) : Int)) = false := by simp; omega
                      go_upto_region 101 with fail
                      go_cut [425] from 389 to 443 (fun s425 wd => s425 = .bool false ∧ Below V1.heap.size V1 wd ∧ wd.rowIs V1.heap.size 3 (n + 1) (fun j => .int .i64 (Tj.rsum T j : Int)) ∧ wd.rowIs fb 3 n (fun q => .int .i64 ((Tj.rsum T q + ecn tz kz rs kinds c q m j : Nat) : Int)) ∧ wd.rowIs W15.heap.size 21 (Tj.rsum T n) (fun j => iv (Z j)))
                      case first =>
                        go_quiet (fail)
                        go_wp2
                        go_meet
                        case rel => exact ⟨by first | rfl | (simp [*]; done) | (simp; done), below_drewN HB.out _, HROW.out, HFIL.out, HSRC.out⟩
                      case rest =>
                        obtain ⟨rfl, hb, hrow, hfil, hsrc⟩ := hcut
                        have HNN : Hid (∀ y2, hdB tz kz kinds c y2 m ((rs.getD m []).getD j 0) = true → False) := by
                          intro y2 h2
                          obtain ⟨_, h3, h4⟩ := (HHD.out y2).1 h2
                          have : y2 = y := by simpa using h3.symm
                          rw [this] at h4
                          exact hcc h4
                        clear hcr2 hcell ckk ctt cx cy
                        go_wp2
                        go_roundg (rl - (j + 1))
                        case rel => exact ⟨j + 1, Z, by omega, by omega, by go_num, ⟨hb, hrow, hfil.congr (fun q _ => by simp only [ecn_none HLI.out HNN.out]), hsrc⟩, HZ.out, HLi.out.none HLI.out HNN.out⟩
                        case measure => omega
                · as_aux_lemma =>
                    have hno : (bits BinOp.and IntKind.i64 kk kinds != 0) = false := by simpa [cts] using hct
                    clear HEt HED kp
                    go_upto_region 101 with fail
                    go_cut [425] from 389 to 443 (fun s425 wd => s425 = .bool false ∧ Below V1.heap.size V1 wd ∧ wd.rowIs V1.heap.size 3 (n + 1) (fun j => .int .i64 (Tj.rsum T j : Int)) ∧ wd.rowIs fb 3 n (fun q => .int .i64 ((Tj.rsum T q + ecn tz kz rs kinds c q m j : Nat) : Int)) ∧ wd.rowIs W15.heap.size 21 (Tj.rsum T n) (fun j => iv (Z j)))
                    case first =>
                      go_quiet (fail)
                      go_wp2
                      go_meet
                      case rel => exact ⟨by first | rfl | (simp [*]; done) | (simp; done), below_drewN HB.out _, HROW.out, HFIL.out, HSRC.out⟩
                    case rest =>
                      obtain ⟨rfl, hb, hrow, hfil, hsrc⟩ := hcut
                      have HNN : Hid (∀ y2, hdB tz kz kinds c y2 m ((rs.getD m []).getD j 0) = true → False) := by
                        intro y2 h2
                        have := ((HHD.out y2).1 h2).1
                        rw [hct] at this
                        cases this
                      clear hcr2 hcell ckk ctt cx
                      go_wp2
                      go_roundg (rl - (j + 1))
                      case rel => exact ⟨j + 1, Z, by omega, by omega, by go_num, ⟨hb, hrow, hfil.congr (fun q _ => by simp only [ecn_none HLI.out HNN.out]), hsrc⟩, HZ.out, HLi.out.none HLI.out HNN.out⟩
                      case measure => omega
              · have hcr1 := (hb.cell (World.block_lt_of_cell? V1 _ hcr)).trans hcr
                have hjr : j = (rs.getD m []).length := by rw [hI.length]; omega
                have HJR := Hid.mk' hjr
                clear hjr
                go_wp2
                go_roundg (n - (m + 1))
                case rel =>
                  have hli2 := HLi.out
                  rw [HJR.out] at hli2
                  exact ⟨m + 1, Z, by omega, by omega, by go_num, ⟨hb, hrow, hfil.congr (fun q _ => by simp only [HJR.out, ecn_row]), hsrc⟩, HZ.out, hli2.next⟩
                case measure => omega
          · have hmn' : m = n := by omega
            subst hmn'
            go_wp2
            go_meet
            case rel => exact ⟨hb, hrow, Z, hsrc, HZ.out, HLi.out⟩
    case rest =>
    obtain ⟨hb, hrow, Z, hsrc, hZ, hLi⟩ := hcut
    have HB2 := Hid.mk' (HB1.out.trans (hb.mono HB1.out.size))
    have HQ2 := Hid.mk' (own_below HQ1.out hb)
    have HA2 := Hid.mk' hrow
    have HZ2 := Hid.mk' hsrc
    have HZR := Hid.mk' hZ
    have HLIS := Hid.mk' hLi
    have HP2 : Hid (wc.rowIs pb 21 K (fun f => iv (r f))) := (HP0.out.of_block (HB1.out.block _ HP0.out.lt)).of_block (hb.block _ (Nat.lt_of_lt_of_le HP0.out.lt HB1.out.size))
    have hab : V0.heap.size ≤ V1.heap.size := HB1.out.size
    have hzb : V1.heap.size ≤ W15.heap.size := HB15.out.size
    have HQZ : Hid (∀ g, vq1.ownBlock = some g → g ≠ W15.heap.size) := by
      intro g hg
      have h1 := (HQ1.out.lt g hg).2
      omega
    clear hb hrow hsrc hZ hLi HB1 HQ1 HB15 HA15 HF15 HT1 HK1 HO1 HC1 HEC
    generalize V1.heap.size = ab at HA2 hab hzb ⊢
    generalize W15.heap.size = zb at HZ2 HQZ hzb ⊢
    obtain ⟨V2, rfl⟩ : ∃ V, V = wc := ⟨_, rfl⟩
    have hmkS := fun w => run_make_row' (P := Try.prog) 68 4 (.bool false) 1 Try.underlying68 Try.info4 rfl .i64 .i64 n (by omega) (by omega) w
    have hlq : Q1.length ≤ 1048576 ∨ True := .inr trivial
    clear hlq
    go_upto_region 106 with fail
    clear hmkS
    go_cut [22] from 446 to 447 (fun s22 wd => Below V0.heap.size V0 wd ∧ wd.rowIs V2.heap.size 4 n (fun _ => .bool false) ∧ wd.ownsRow (V0.heap.size + 1) 21 1 s22 0 [] ∧ (∀ g, s22.ownBlock = some g → g ≠ zb) ∧ wd.rowIs ab 3 (n + 1) (fun j => .int .i64 (Tj.rsum T j : Int)) ∧ wd.rowIs zb 21 (Tj.rsum T n) (fun j => iv (Z j)))
    case first =>
      as_aux_lemma =>
        have hrows : Below V0.heap.size V0 (V2.alloc (.cells (madeCells #[.bool false] n) 4)) ∧ (V2.alloc (.cells (madeCells #[.bool false] n) 4)).rowIs V2.heap.size 4 n (fun _ => .bool false) ∧ ((V2.alloc (.cells (madeCells #[.bool false] n) 4)).rowIs ab 3 (n + 1) (fun j => .int .i64 (Tj.rsum T j : Int)) ∧ (V2.alloc (.cells (madeCells #[.bool false] n) 4)).rowIs zb 21 (Tj.rsum T n) (fun j => iv (Z j))) := ⟨HB2.out.alloc HB2.out.size _, World.rowIs_made V2 (.bool false) n 4, HA2.out.alloc _, HZ2.out.alloc _⟩
        have HRWS := Hid.mk' hrows
        clear hrows
        rcases HQ2.out.2 with ⟨h1, h2⟩ | ⟨g, cap, cur, h1, h2, h3, hc1, hc2, h4⟩
        · subst h1
          go_wp2
          go_meet
          case rel => exact ⟨HRWS.out.1, HRWS.out.2.1, World.ownsRow_nil _ _ _ _, by simp [Value.ownBlock], HRWS.out.2.2⟩
        · subst h1
          clear h2 h3 h4
          go_wp2
          go_meet
          case rel => exact ⟨HRWS.out.1, HRWS.out.2.1, own_zero (HQ2.out.alloc _), HQZ.out, HRWS.out.2.2⟩
    case rest =>
    obtain ⟨hb, hbk, hq, hqz, hA, hZ⟩ := hcut
    have HB3 := Hid.mk' hb
    have HK3 := Hid.mk' hbk
    have HQ3 := Hid.mk' hq
    have HQZ3 := Hid.mk' hqz
    have HA3 := Hid.mk' hA
    have HZ3 := Hid.mk' hZ
    have hb1 : V0.heap.size ≤ V2.heap.size := HB2.out.size
    have hb2 : ab < V2.heap.size := HA2.out.lt
    have hb3 : zb < V2.heap.size := HZ2.out.lt
    clear hb hbk hq hqz hA hZ HB2 HQ2 HA2 HZ2 HP2 HQZ
    generalize V2.heap.size = bb at HK3 hb1 hb2 hb3 ⊢
    obtain ⟨W17, rfl⟩ : ∃ V, V = wc := ⟨_, rfl⟩
    obtain ⟨vq3, rfl⟩ : ∃ V, V = u22 := ⟨_, rfl⟩
    go_upto_block 32 with fail
    go_cut [22, 43] from 448 to 465 (fun s22 s43 wd => ∃ seen Q, Bs n seen Q ∧ Bq V0 wd bb n seen s22 Q ∧ (∀ f, f < K → seen (r f) = true) ∧ (∀ g, s22.ownBlock = some g → g ≠ zb) ∧ wd.rowIs ab 3 (n + 1) (fun j => .int .i64 (Tj.rsum T j : Int)) ∧ wd.rowIs zb 21 (Tj.rsum T n) (fun j => iv (Z j)))
    case first =>
      as_aux_lemma =>
        obtain ⟨i0, hi, hz0, hz1, hz2⟩ := info_parts Try.info21
        have e1 : ab ≠ bb := by omega
        have e2 : zb ≠ bb := by omega
        go_wp2_with fail
        go_loopg [22, 43] K (fun gk vq i wr => ∃ (m : Nat) (seen : Nat → Bool) (Q : List Nat), m ≤ K ∧ gk + m = K ∧ i = .int .i64 m ∧ Bs n seen Q ∧ Bq V0 wr bb n seen vq Q ∧ (∀ f, f < m → seen (r f) = true) ∧ (∀ v, seen v = true → c v < m) ∧ (∀ g, vq.ownBlock = some g → g ≠ zb) ∧ wr.rowIs ab 3 (n + 1) (fun j => .int .i64 (Tj.rsum T j : Int)) ∧ wr.rowIs zb 21 (Tj.rsum T n) (fun j => iv (Z j)))
        case atStart => exact ⟨0, fun _ => false, [], Nat.zero_le _, rfl, rfl, Bs.start n, ⟨HB3.out, hb1, HK3.out, HQ3.out⟩, fun f hf => absurd hf (by omega), fun v hv => by simp at hv, HQZ3.out, HA3.out, HZ3.out⟩
        case round =>
          clear HB3 HK3 HQ3 HQZ3 HA3 HZ3
          obtain ⟨m, seen, Q, hmk, hgm, rfl, hBs, hBq, hA, hC, hqz, hra, hrz⟩ := hrel
          have HBs := Hid.mk' hBs
          have HBq := Hid.mk' hBq
          have HA := Hid.mk' hA
          have HCC := Hid.mk' hC
          have HQZ := Hid.mk' hqz
          have HRA := Hid.mk' hra
          have HRZ := Hid.mk' hrz
          clear hBs hBq hA hC hqz hra hrz
          by_cases hlt : m < K
          · have hrm := HRR.out m hlt
            have hrn := hrm.1
            have hnot : seen (r m) = false := by
              rcases Bool.eq_false_or_eq_true (seen (r m)) with h | h
              · have := HCC.out _ h; rw [hrm.2] at this; omega
              · exact h
            have hql := HBs.out.lt_n (r m) hrn hnot
            have cp := HP0.out.cell (i := m) hlt
            have lp := World.block_lt_of_cell? V0 _ cp
            rw [← HBq.out.below.cell lp] at cp
            have cs := HBq.out.seen.cell (i := r m) hrn
            have cf := HBq.out.seen.frozen (r m)
            have hne : pb ≠ bb := by simp at lp; omega
            have HQ2 := Hid.mk' (HBq.out.mark (r m))
            have HRA2 := Hid.mk' (HRA.out.setOther (a := ⟨bb, r m, none⟩) e1 (.bool true))
            have HRZ2 := Hid.mk' (HRZ.out.setOther (a := ⟨bb, r m, none⟩) e2 (.bool true))
            have cp2 := kept_set cp (r m) (.bool true) hne
            clear hrm lp
            go_upto_region 111 with fail
            clear cp cs cf
            generalize wr.setCell ⟨bb, r m, none⟩ (.bool true) = wr2 at HQ2 HRA2 HRZ2 cp2 ⊢
            have hsz : V0.heap.size + 1 ≤ wr2.heap.size := by have := HQ2.out.seen.lt; omega
            have hzl : zb < wr2.heap.size := HRZ2.out.lt
            have HNA : Hid (u22.ownBlock ≠ some ab) := own_apart HQ2.out.que HRA2.out (by decide)
            have HNZ : Hid (u22.ownBlock ≠ some zb) := fun e => HQZ.out zb e rfl
            go_wp2_with (at_builtin; refine wpList_append_own_at _ (by rfl) _ _ 48 (by rfl) (V0.heap.size + 1) 21 i0 (.int .i32 0) 1 4 Try.underlying48 hi hz0 hz1 hz2 rfl (by decide) _ _ _ (by rfl) (HQ2.out.que.alloc _) ⟨_, 0, none⟩ 1 1 [.int .i32 (r m)] (by rfl) rfl (cell_one_new' _ _ _ _ (by simp)) (fun x hx => by simp at hx; subst hx; rfl) (by unfold maxLen; omega) (by omega) (by simp; omega) ?_; intro v1 w3 hown1 hgrow3 _ hat3)
            go_roundg (K - (m + 1))
            case rel =>
              refine ⟨m + 1, Tj.upd seen (r m) true, Q ++ [r m], by omega, by omega, by go_num, HBs.out.add (r m) hrn hnot, (HQ2.out.alloc _).push hown1 hgrow3, fun f hf => ?_, fun v hv => ?_, fun g hg => ?_, ?_, ?_⟩
              · by_cases e : r f = r m
                · rw [e]; exact Tj.upd_same _ _ _
                · rw [Tj.upd_other _ _ _ _ e]
                  have : f ≠ m := fun e2 => e (by rw [e2])
                  exact HA.out f (by omega)
              · by_cases e : v = r m
                · rw [e, (HRR.out m hlt).2]; omega
                · rw [Tj.upd_other _ _ _ _ e] at hv
                  have := HCC.out v hv
                  omega
              · rcases hat3 with h | h
                · rw [h] at hg; exact HQZ.out g hg
                · rw [h] at hg
                  simp at hg
                  omega
              · exact row_push (HRA2.out.alloc _) HNA.out hgrow3
              · exact row_push (HRZ2.out.alloc _) HNZ.out hgrow3
            case measure => omega
          · go_wp2
            go_meet
            case rel => exact ⟨seen, Q, HBs.out, HBq.out, fun f hf => HA.out f (by omega), HQZ.out, HRA.out, HRZ.out⟩
    case rest =>
    obtain ⟨seen4, Q4, hBs, hBq, hA, hqz, hra, hrz⟩ := hcut
    have HBs4 := Hid.mk' hBs
    have HBq4 := Hid.mk' hBq
    have HA4 := Hid.mk' hA
    have HQZ4 := Hid.mk' hqz
    have HRA4 := Hid.mk' hra
    have HRZ4 := Hid.mk' hrz
    clear hBs hBq hA hqz hra hrz HB3 HK3 HQ3 HQZ3 HA3 HZ3
    obtain ⟨W18, rfl⟩ : ∃ V, V = wc := ⟨_, rfl⟩
    obtain ⟨vq4, rfl⟩ : ∃ V, V = u22 := ⟨_, rfl⟩
    go_upto_block 34 with fail
    go_cut [22, 44, 45, 46, 47] from 466 to 504 (fun s22 s44 s45 s46 s47 wd => ∃ seen Q, Bq V0 wd bb n seen s22 Q ∧ (∀ v, v < n → seen v = true))
    case first =>
      as_aux_lemma =>
        obtain ⟨i0, hi, hz0, hz1, hz2⟩ := info_parts Try.info21
        have e1 : ab ≠ bb := by omega
        have e2 : zb ≠ bb := by omega
        go_wp2_with fail
        go_loopg [22, 44] n (fun gk vq i wr => ∃ (h : Nat) (seen : Nat → Bool) (Q : List Nat), h ≤ Q.length ∧ gk + h = n ∧ i = .int .i64 h ∧ Bs n seen Q ∧ Bq V0 wr bb n seen vq Q ∧ (∀ f, f < K → seen (r f) = true) ∧ (∀ i, i < h → ∀ j, Tj.rsum T (Q.getD i 0) ≤ j → j < Tj.rsum T (Q.getD i 0 + 1) → seen (Z j) = true) ∧ (∀ g, vq.ownBlock = some g → g ≠ zb) ∧ wr.rowIs ab 3 (n + 1) (fun j => .int .i64 (Tj.rsum T j : Int)) ∧ wr.rowIs zb 21 (Tj.rsum T n) (fun j => iv (Z j)))
        case atStart => exact ⟨0, seen4, Q4, Nat.zero_le _, rfl, rfl, HBs4.out, HBq4.out, HA4.out, fun i hi => absurd hi (by omega), HQZ4.out, HRA4.out, HRZ4.out⟩
        case round =>
          clear HBs4 HBq4 HA4 HQZ4 HRA4 HRZ4
          obtain ⟨h, seen, Q, hhl, hgh, rfl, hBs, hBq, hA, hC, hqz, hra, hrz⟩ := hrel
          have HBs := Hid.mk' hBs
          have HBq := Hid.mk' hBq
          have HA := Hid.mk' hA
          have HCC := Hid.mk' hC
          have HQZ := Hid.mk' hqz
          have HRA := Hid.mk' hra
          have HRZ := Hid.mk' hrz
          clear hBs hBq hA hC hqz hra hrz
          have hQn := HBs.out.le
          by_cases hlt : h < Q.length
          · obtain ⟨qg, qcap, hvq, hcq⟩ := HBq.out.at_ h hlt
            subst hvq
            have hyn : Q.getD h 0 < n := HBs.out.lt _ (by rw [List.getD_eq_getElem?_getD, List.getElem?_eq_getElem hlt]; exact List.getElem_mem hlt)
            generalize hyq : Q.getD h 0 = y at hcq hyn
            have HYQ := Hid.mk' hyq
            have ca := HRA.out.cell (i := y) (by omega)
            have h01 : Tj.rsum T y ≤ Tj.rsum T (y + 1) := st_mono T y (y + 1) (by omega)
            have h1n : Tj.rsum T (y + 1) ≤ Tj.rsum T n := st_mono T (y + 1) n (by omega)
            obtain ⟨s0, hs0⟩ : ∃ s, s = Tj.rsum T y := ⟨_, rfl⟩
            obtain ⟨s1, hs1⟩ : ∃ s, s = Tj.rsum T (y + 1) := ⟨_, rfl⟩
            have HS0 := Hid.mk' hs0
            have HS1 := Hid.mk' hs1
            rw [← hs0] at ca h01
            rw [← hs1] at h01 h1n
            clear hyq hs0 hs1
            go_wp2_with fail
            go_loopg [22, 46] (s1 - s0) (fun gk vq i wr => ∃ (j : Nat) (seen : Nat → Bool) (Q : List Nat), s0 ≤ j ∧ j ≤ s1 ∧ gk + j = s1 ∧ i = .int .i64 j ∧ h < Q.length ∧ Q.getD h 0 = y ∧ Bs n seen Q ∧ Bq V0 wr bb n seen vq Q ∧ (∀ f, f < K → seen (r f) = true) ∧ (∀ i, i < h → ∀ j, Tj.rsum T (Q.getD i 0) ≤ j → j < Tj.rsum T (Q.getD i 0 + 1) → seen (Z j) = true) ∧ (∀ g, vq.ownBlock = some g → g ≠ zb) ∧ (wr.rowIs ab 3 (n + 1) (fun j => .int .i64 (Tj.rsum T j : Int)) ∧ wr.rowIs zb 21 (Tj.rsum T n) (fun j => iv (Z j))) ∧ (∀ j', s0 ≤ j' → j' < j → seen (Z j') = true))
            case atStart => exact ⟨s0, seen, Q, Nat.le_refl _, h01, by omega, rfl, hlt, HYQ.out, HBs.out, HBq.out, HA.out, HCC.out, HQZ.out, ⟨HRA.out, HRZ.out⟩, fun j' h1 h2 => absurd h2 (by omega)⟩
            case round =>
              clear hcq ca HYQ HBs HBq HA HCC HQZ HRA HRZ hQn hlt hhl
              obtain ⟨j, seen, Q, hj0, hj1, hgj, rfl, hlt, hyq, hBs, hBq, hA, hC, hqz, ⟨hra, hrz⟩, hD⟩ := hrel
              have HBs := Hid.mk' hBs
              have HBq := Hid.mk' hBq
              have HA := Hid.mk' hA
              have HCC := Hid.mk' hC
              have HQZ := Hid.mk' hqz
              have HRA := Hid.mk' hra
              have HRZ := Hid.mk' hrz
              have HDD := Hid.mk' hD
              have HYQ := Hid.mk' hyq
              have hQn := hBs.le
              clear hBs hBq hA hC hqz hra hrz hD hyq
              have ca1 := HRA.out.cell (i := y + 1) (by omega)
              rw [← HS1.out] at ca1
              by_cases hlt2 : j < s1
              · have hjn : j < Tj.rsum T n := by omega
                have cz := HRZ.out.cell (i := j) hjn
                have hxn := HZR.out j hjn
                have cs := HBq.out.seen.cell (i := Z j) hxn
                have cf := HBq.out.seen.frozen (Z j)
                have HGO : Hid (∀ seen' : Nat → Bool, (∀ v, seen v = true → seen' v = true) → seen' (Z j) = true → ∀ j', s0 ≤ j' → j' < j + 1 → seen' (Z j') = true) := by
                  intro seen' h1 h2 j' h3 h4
                  by_cases e : j' = j
                  · rw [e]; exact h2
                  · exact h1 _ (HDD.out j' h3 (by omega))
                rcases Bool.eq_false_or_eq_true (seen (Z j)) with hs | hs
                · as_aux_lemma =>
                    rw [hs] at cs
                    go_wp2
                    go_roundg (s1 - (j + 1))
                    case rel => exact ⟨j + 1, seen, Q, by omega, by omega, by omega, by go_num, hlt, HYQ.out, HBs.out, HBq.out, HA.out, HCC.out, HQZ.out, ⟨HRA.out, HRZ.out⟩, HGO.out seen (fun _ h => h) hs⟩
                    case measure => omega
                · as_aux_lemma =>
                    rw [hs] at cs
                    have hql := HBs.out.lt_n (Z j) hxn hs
                    have HQ2 := Hid.mk' (HBq.out.mark (Z j))
                    have HRA2 := Hid.mk' (HRA.out.setOther (a := ⟨bb, Z j, none⟩) e1 (.bool true))
                    have HRZ2 := Hid.mk' (HRZ.out.setOther (a := ⟨bb, Z j, none⟩) e2 (.bool true))
                    go_upto_region 122 with fail
                    clear cs cf cz ca1
                    generalize wr.setCell ⟨bb, Z j, none⟩ (.bool true) = wr2 at HQ2 HRA2 HRZ2 ⊢
                    have hsz : V0.heap.size + 1 ≤ wr2.heap.size := by have := HQ2.out.seen.lt; omega
                    have hzl : zb < wr2.heap.size := HRZ2.out.lt
                    have HNA : Hid (u22.ownBlock ≠ some ab) := own_apart HQ2.out.que HRA2.out (by decide)
                    have HNZ : Hid (u22.ownBlock ≠ some zb) := fun e => HQZ.out zb e rfl
                    go_wp2_with (at_builtin; refine wpList_append_own_at _ (by rfl) _ _ 48 (by rfl) (V0.heap.size + 1) 21 i0 (.int .i32 0) 1 4 Try.underlying48 hi hz0 hz1 hz2 rfl (by decide) _ _ _ (by rfl) (HQ2.out.que.alloc _) ⟨_, 0, none⟩ 1 1 [.int .i32 (Z j)] (by rfl) rfl (cell_one_new' _ _ _ _ (by simp)) (fun x hx => by simp at hx; subst hx; rfl) (by unfold maxLen; omega) (by omega) (by simp; omega) ?_; intro v1 w3 hown1 hgrow3 _ hat3)
                    go_roundg (s1 - (j + 1))
                    case rel =>
                      have hmono : ∀ v, seen v = true → Tj.upd seen (Z j) true v = true := by
                        intro v hv
                        by_cases e : v = Z j
                        · rw [e]; exact Tj.upd_same _ _ _
                        · rw [Tj.upd_other _ _ _ _ e]; exact hv
                      refine ⟨j + 1, Tj.upd seen (Z j) true, Q ++ [Z j], by omega, by omega, by omega, by go_num, by simp; omega, by rw [getD_snoc Q (Z j) h hlt]; exact HYQ.out, HBs.out.add (Z j) hxn hs, (HQ2.out.alloc _).push hown1 hgrow3, fun f hf => hmono _ (HA.out f hf), fun i hi j' h1 h2 => ?_, fun g hg => ?_, ⟨?_, ?_⟩, HGO.out _ hmono (Tj.upd_same _ _ _)⟩
                      · rw [getD_snoc Q (Z j) i (by omega)] at h1 h2
                        exact hmono _ (HCC.out i hi j' h1 h2)
                      · rcases hat3 with h' | h'
                        · rw [h'] at hg; exact HQZ.out g hg
                        · rw [h'] at hg
                          simp at hg
                          omega
                      · exact row_push (HRA2.out.alloc _) HNA.out hgrow3
                      · exact row_push (HRZ2.out.alloc _) HNZ.out hgrow3
                    case measure => omega
              · as_aux_lemma =>
                  have hje : j = s1 := by omega
                  go_wp2
                  go_roundg (n - (h + 1))
                  case rel =>
                    refine ⟨h + 1, seen, Q, by omega, by omega, by go_num, HBs.out, HBq.out, HA.out, fun i hi j' h1 h2 => ?_, HQZ.out, HRA.out, HRZ.out⟩
                    by_cases e : i = h
                    · subst e
                      rw [HYQ.out] at h1 h2
                      exact HDD.out j' (by rw [HS0.out]; exact h1) (by rw [hje, HS1.out]; exact h2)
                    · exact HCC.out i (by omega) j' h1 h2
                  case measure => omega
          · obtain ⟨qa, qc, hvq⟩ := HBq.out.form
            subst hvq
            go_wp2
            go_meet
            case rel =>
              refine ⟨seen, Q, HBq.out, back_all HFN.out HDOM.out r seen HRR.out HA.out (fun x y hx hy hc => ?_)⟩
              obtain ⟨i, h1, h2⟩ := mem_getD (HBs.out.mem y hx)
              have hxn := HDOM.out x y hy
              have hyn := HG1.out x y hxn hy
              obtain ⟨i', h3, h4⟩ := ed_hd hy hc
              obtain ⟨j, p1, p2, p3⟩ := HLIS.out x i' y (.inl hxn) h3 hyn h4
              rw [← p3]
              refine HCC.out i (by omega) j (by rw [h2]; exact p1) ?_
              rw [h2]
              show j < Tj.rsum T y + T y
              rw [HTT.out]
              rw [HTT.out] at p2
              exact p2
    case rest =>
    obtain ⟨seen5, Q5, hBq, hS⟩ := hcut
    have HBq5 := Hid.mk' hBq
    have HS5 := Hid.mk' hS
    clear hBq hS HBs4 HBq4 HA4 HQZ4 HRA4 HRZ4
    obtain ⟨W19, rfl⟩ : ∃ V, V = wc := ⟨_, rfl⟩
    go_upto_block 38 with fail
    go_wp2_with fail
    go_loopg [48] n (fun gk i wr => ∃ m : Nat, m ≤ n ∧ gk + m = n ∧ i = .int .i64 m ∧ wr = W19)
    case atStart => exact ⟨0, Nat.zero_le _, rfl, rfl, rfl⟩
    case round =>
      obtain ⟨m, hmn, hgm, rfl, hwr⟩ := hrel
      subst hwr
      by_cases hlt : m < n
      · have hc := HBq5.out.seen.cell (i := m) hlt
        simp only [HS5.out m hlt] at hc
        go_wp2
        go_roundg (n - (m + 1))
        case rel => exact ⟨m + 1, by omega, by omega, by go_num, rfl⟩
        case measure => omega
      · go_wp2
        go_ret
        exact ⟨rfl, HW0.out.trans (HBq5.out.below.mono HW0.out.size)⟩
end Go.Proofs.Qxb6602594a

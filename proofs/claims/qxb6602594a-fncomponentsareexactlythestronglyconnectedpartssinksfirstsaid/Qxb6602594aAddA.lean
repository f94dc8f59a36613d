import Derived.Test.Qxb6602594aResB
namespace Go.Proofs.Qxb6602594a
open Go.RowKit
set_option linter.unusedSimpArgs false
set_option linter.unusedVariables false

set_option maxHeartbeats 400000 in
theorem addBytes_no (a b : Option Addr) (la ca lb cb : Nat) (w : World) (h : ¬ la + lb ≤ 1048576) (ha : la ≤ maxLen) (hb : lb ≤ maxLen) :
    Calls Try.prog 15 #[.slice a la ca, .slice b lb cb] w fun e w' => e = .returned (.bool false) ∧ w = w' := by
  unfold maxLen at ha hb
  by_cases h1 : 1048576 < la
  · go_enter Try.func15, Try.ntmps15
    go_wp2
    go_ret
    exact ⟨rfl, rfl⟩
  · by_cases h2 : 1048576 < lb
    · go_enter Try.func15, Try.ntmps15
      go_wp2
      go_ret
      exact ⟨rfl, rfl⟩
    · go_enter Try.func15, Try.ntmps15
      go_wp2
      go_ret
      exact ⟨rfl, rfl⟩

set_option maxHeartbeats 400000 in
theorem addBytes_yes (a b : Option Addr) (la ca lb cb : Nat) (w : World) (h : la + lb ≤ 1048576) :
    Calls Try.prog 15 #[.slice a la ca, .slice b lb cb] w fun e w' => e = .returned (.bool true) ∧ w = w' := by
  go_enter Try.func15, Try.ntmps15
  go_wp2
  go_ret
  exact ⟨rfl, rfl⟩

set_option maxRecDepth 100000 in
set_option maxHeartbeats 400000 in
theorem add_long (a b : Option Addr) (la ca lb cb : Nat) (w : World) (h : ¬ la + lb ≤ 1048576) (ha : la ≤ maxLen) (hb : lb ≤ maxLen) :
    Calls Try.prog 4 #[.slice a la ca, .slice b lb cb] w fun e w' => e = .returned (.bool true) ∧ Below w.heap.size w w' := by
  go_enter Try.func4, Try.ntmps4
  go_wp2_with (go_at_call 15; refine (addBytes_no a b la ca lb cb w h ha hb).mono ?_; rintro e w' ⟨rfl, rfl⟩)
  go_ret
  exact ⟨rfl, Below.refl _ _⟩

theorem IsI.ofOwns {w : World} {base : Nat} {g n cap : Nat} {k : IntKind} {e : TypeId} {zs : List Int} (h : w.ownsRow base e 1 (.slice (some ⟨g, 0, none⟩) n cap) n (zs.map (Value.int k))) : IsI k w (some ⟨g, 0, none⟩) n cap zs := by
  have hl : zs.length = n := by simpa using h.1
  refine ⟨hl, by simp, fun _ => ⟨g, 0, rfl, fun i hi => ?_⟩⟩
  rw [Nat.zero_add, h.cellAt i (by omega)]
  simp [List.getD, List.getElem?_eq_getElem (show i < zs.length by omega)]

theorem IsI.none_of {k : IntKind} {w : World} {a : Option Addr} {len cap : Nat} {zs : List Int} (h : IsI k w a len cap zs) :
    ∀ ad, a = some ad → ∀ (j : Nat) u, (zs.map (Value.int k))[j]? = some u → w.cell? (ad.add j) = some u := by
  intro ad had j u hj
  have hjl : j < zs.length := by
    have := (List.getElem?_eq_some_iff.1 hj).1
    simpa using this
  have hl := h.length
  obtain ⟨b, off, hx, hc⟩ := h.at_ (by omega)
  rw [had] at hx
  obtain rfl := Option.some.inj hx
  rw [Addr.add_lit, hc j (by omega), ← hj]
  simp [List.getD, List.getElem?_eq_getElem hjl]

theorem IsRep.later {w w' : World} {r T C A U : Nat} {va : Value} {al : Int} {ac : ByteArray} (h : IsRep w r T C A U va al ac) (hb : Below w.heap.size w w') : IsRep w' r T C A U va al ac := by
  have hr := World.block_lt_of_cell? w _ h.c0
  have hc : ∀ j, w'.cell? ⟨r, j, none⟩ = w.cell? ⟨r, j, none⟩ := fun j => hb.cell (p := ⟨r, j, none⟩) hr
  exact ⟨(hc 0).trans h.c0, (hc 1).trans h.c1, (hc 2).trans h.c2, (hc 3).trans h.c3, (hc 4).trans h.c4, (hc 5).trans h.c5, (hc 6).trans h.c6⟩

theorem cnt_append (p : Int → Bool) (xs ys : List Int) : cnt p (xs ++ ys) = cnt p xs + cnt p ys := by simp [cnt, List.countP_append]
theorem cnt_sum (zs : List Int) : cnt pC zs + cnt pA zs + cnt pU zs = cnt pT zs := by
  induction zs with
  | nil => rfl
  | cons z zs ih =>
    simp only [cnt, List.countP_cons] at ih ⊢
    have : (if pC z = true then 1 else 0) + (if pA z = true then 1 else 0) + (if pU z = true then 1 else 0) = (if pT z = true then 1 else 0 : Nat) := by
      unfold pC pA pU pT
      by_cases h1 : z = 1
      · simp [h1]
      · by_cases h2 : z = 2
        · simp [h2]
        · by_cases h4 : z = 4
          · simp [h4]
          · simp [h1, h2, h4]
    omega

def mk8 (n : Nat) : Array Value := madeCells #[.int .u8 0] n
theorem make_cap (la lb : Nat) (h : la + lb ≤ 1048576) (w : World) :
    (Instr.makeSlice 22 (.int .i64 0) (.int .i64 ((la : Int) + (lb : Int)))).run Try.prog w = .ok (.slice (some ⟨w.heap.size, 0, none⟩) 0 (la + lb)) (w.alloc (.cells (mk8 (la + lb)) 5)) := by
  obtain ⟨i, hi, hz, hs, hb⟩ := info_parts Try.info5
  have hr := run_make (P := Try.prog) w 22 5 i _ Try.underlying22 hi hz .i64 .i64 0 ((la : Int) + (lb : Int)) (by omega) (by omega) (by rw [hb]; omega) (by omega)
  rw [show ((la : Int) + (lb : Int)).toNat = la + lb by omega, hs, Nat.mul_one] at hr
  exact hr

theorem owns_cap (n : Nat) (h : n ≤ 1048576) (w : World) : (w.alloc (.cells (mk8 n) 5)).ownsRow w.heap.size 5 1 (.slice (some ⟨w.heap.size, 0, none⟩) 0 n) 0 [] :=
  World.ownsRow_made w (mk8 n) n (Nat.le_refl _) (by unfold maxLen; omega) (by simp [mk8, size_madeCells])

set_option maxRecDepth 100000 in
set_option maxHeartbeats 1000000 in
theorem add_walk (a b : Option Addr) (la ca lb cb : Nat) (za zb : List Int) (w : World) (h : la + lb ≤ 1048576) (ha : IsI .u8 w a la ca za) (hb : IsI .u8 w b lb cb zb) :
    Calls Try.prog 4 #[.slice a la ca, .slice b lb cb] w fun e w' => e = .returned (.bool true) ∧ Below w.heap.size w w' := by
  obtain ⟨i0, hi, hz0, hz1, hz2⟩ := info_parts Try.info5
  have HA : Hid (IsI .u8 w a la ca za) := ha
  have HB : Hid (IsI .u8 w b lb cb zb) := hb
  clear ha hb
  go_enter Try.func4, Try.ntmps4
  go_wp2_with (go_at_call 15; refine (addBytes_yes a b la ca lb cb w h).mono ?_; rintro e w' ⟨rfl, rfl⟩)
  refine (cloneU8_calls a la ca za w (by omega) HA.out).mono ?_
  rintro e w1 ⟨a1, ca1, rfl, hb1, hA1⟩
  have HA1 : Hid (IsI .u8 w1 a1 la ca1 za) := hA1
  clear hA1
  go_wp2_with fail
  refine (cloneU8_calls b lb cb zb w1 (by omega) (HB.out.later hb1)).mono ?_
  rintro e w2 ⟨b1, cb1, rfl, hb2, hB2⟩
  have hA2 : Hid (IsI .u8 w2 a1 la ca1 za) := HA1.out.later hb2
  have HB2 : Hid (IsI .u8 w2 b1 lb cb1 zb) := hB2
  have hbw2 := hb1.trans (hb2.mono hb1.size)
  clear hB2 HA1 HA HB hb1 hb2
  have hmk := make_cap la lb h
  have hlA := hA2.out.length
  have hlB := HB2.out.length
  have ho0 := owns_cap (la + lb) h w2
  have hbe0 : Below w2.heap.size w2 (w2.alloc (.cells (mk8 (la + lb)) 5)) := (Below.refl _ _).alloc (Nat.le_refl _) _
  go_wp2_with (at_builtin; refine wpList_append_fits_any _ rfl (.tmp 41) (.tmp 42) 22 rfl w2.heap.size 5 i0 1 Try.underlying22 hi hz1 w2.heap.size 0 (la + lb) [] rfl ho0 a1 la ca1 (za.map (.int .u8)) rfl ?_ hA2.out.nil ?_ (ints_oneCell _ _) ?_ ?_)
  · simpa using hlA
  · exact (hA2.out.later hbe0).none_of
  · omega
  intro w3 hown3 hgrow3
  try simp only [Nat.zero_add, List.nil_append] at hown3
  have hbe3 : Below w2.heap.size w2 w3 := hbe0.grown hgrow3 (by simp) (by intro k hk; simp at hk; omega)
  clear hbe0 ho0 hgrow3
  go_wp2_with (at_builtin; refine wpList_append_fits_any _ rfl (.tmp 44) (.tmp 45) 22 rfl w2.heap.size 5 i0 1 Try.underlying22 hi hz1 w2.heap.size la (la + lb) (za.map (.int .u8)) rfl hown3 b1 lb cb1 (zb.map (.int .u8)) rfl ?_ HB2.out.nil ?_ (ints_oneCell _ _) ?_ ?_)
  · simpa using hlB
  · exact (HB2.out.later hbe3).none_of
  · omega
  intro w4 hown4 hgrow4
  rw [← List.map_append] at hown4
  have hbe4 : Below w2.heap.size w2 w4 := hbe3.grown hgrow4 hbe3.size (by intro k hk; simp at hk; omega)
  have hAB4 : Hid (IsI .u8 w4 (some ⟨w2.heap.size, 0, none⟩) (la + lb) (la + lb) (za ++ zb)) := IsI.ofOwns hown4
  have hA4 : Hid (IsI .u8 w4 a1 la ca1 za) := hA2.out.later hbe4
  have hB4 : Hid (IsI .u8 w4 b1 lb cb1 zb) := HB2.out.later hbe4
  have hbw4 := hbw2.trans (hbe4.mono hbw2.size)
  clear hbe3 hown3 hgrow4 hown4 hA2 HB2 hbw2
  have ho0 := owns_cap (la + lb) h w4
  have hbe0 : Below w4.heap.size w4 (w4.alloc (.cells (mk8 (la + lb)) 5)) := (Below.refl _ _).alloc (Nat.le_refl _) _
  go_wp2_with (at_builtin; refine wpList_append_fits_any _ rfl (.tmp 53) (.tmp 54) 22 rfl w4.heap.size 5 i0 1 Try.underlying22 hi hz1 w4.heap.size 0 (la + lb) [] rfl ho0 b1 lb cb1 (zb.map (.int .u8)) rfl ?_ hB4.out.nil ?_ (ints_oneCell _ _) ?_ ?_)
  · simpa using hlB
  · exact (hB4.out.later hbe0).none_of
  · omega
  intro w5 hown5 hgrow5
  try simp only [Nat.zero_add, List.nil_append] at hown5
  have hbe5 : Below w4.heap.size w4 w5 := hbe0.grown hgrow5 (by simp) (by intro k hk; simp at hk; omega)
  clear hbe0 ho0 hgrow5
  go_wp2_with (at_builtin; refine wpList_append_fits_any _ rfl (.tmp 56) (.tmp 57) 22 rfl w4.heap.size 5 i0 1 Try.underlying22 hi hz1 w4.heap.size lb (la + lb) (zb.map (.int .u8)) rfl hown5 a1 la ca1 (za.map (.int .u8)) rfl ?_ hA4.out.nil ?_ (ints_oneCell _ _) ?_ ?_)
  · simpa using hlA
  · exact (hA4.out.later hbe5).none_of
  · omega
  intro w6 hown6 hgrow6
  rw [← List.map_append] at hown6
  have hbe6 : Below w4.heap.size w4 w6 := hbe5.grown hgrow6 hbe5.size (by intro k hk; simp at hk; omega)
  have hAB6 : Hid (IsI .u8 w6 (some ⟨w2.heap.size, 0, none⟩) (la + lb) (la + lb) (za ++ zb)) := hAB4.out.later hbe6
  have hBA6 : Hid (IsI .u8 w6 (some ⟨w4.heap.size, 0, none⟩) (lb + la) (la + lb) (zb ++ za)) := IsI.ofOwns hown6
  have hA6 : Hid (IsI .u8 w6 a1 la ca1 za) := hA4.out.later hbe6
  have hB6 : Hid (IsI .u8 w6 b1 lb cb1 zb) := hB4.out.later hbe6
  have hbw6 := hbw4.trans (hbe6.mono hbw4.size)
  clear hbe5 hown5 hgrow6 hown6 hA4 hB4 hAB4 hbw4 hbe4 hbe6
  have hnil : ∀ w, IsS w none 0 0 [] := fun w => ⟨rfl, fun _ => ⟨rfl, rfl⟩, fun h => absurd h (by omega)⟩
  have HN : Hid (∀ w, IsS w none 0 0 []) := hnil
  clear hnil
  go_wp2_with fail
  refine (zzresult_calls a1 none none la ca1 0 0 0 za [] [] 0 ⟨#[]⟩ w6 (by omega) (by omega) hA6.out (HN.out _) (HN.out _)).mono ?_
  rintro e w7 ⟨r1, g1, rfl, hb7, hr1, _⟩
  have HR1 : Hid (IsRep w7 r1 (cnt pT za) (cnt pC za) (cnt pA za) (cnt pU za) (.slice (some ⟨g1, 0, none⟩) 0 0) 0 ⟨#[]⟩) := hr1
  clear hr1
  have hB7 : Hid (IsI .u8 w7 b1 lb cb1 zb) := hB6.out.later hb7
  have hAB7 : Hid (IsI .u8 w7 (some ⟨w2.heap.size, 0, none⟩) (la + lb) (la + lb) (za ++ zb)) := hAB6.out.later hb7
  have hBA7 : Hid (IsI .u8 w7 (some ⟨w4.heap.size, 0, none⟩) (lb + la) (la + lb) (zb ++ za)) := hBA6.out.later hb7
  have hbw7 := hbw6.trans (hb7.mono hbw6.size)
  clear hb7 hbw6 hA6 hB6 hAB6 hBA6
  go_wp2_with fail
  refine (zzresult_calls b1 none none lb cb1 0 0 0 zb [] [] 0 ⟨#[]⟩ w7 (by omega) (by omega) hB7.out (HN.out _) (HN.out _)).mono ?_
  rintro e w8 ⟨r2, g2, rfl, hb8, hr2, _⟩
  have HR2 : Hid (IsRep w8 r2 (cnt pT zb) (cnt pC zb) (cnt pA zb) (cnt pU zb) (.slice (some ⟨g2, 0, none⟩) 0 0) 0 ⟨#[]⟩) := hr2
  clear hr2
  have HR1 : Hid (IsRep w8 r1 (cnt pT za) (cnt pC za) (cnt pA za) (cnt pU za) (.slice (some ⟨g1, 0, none⟩) 0 0) 0 ⟨#[]⟩) := HR1.out.later hb8
  have hAB8 : Hid (IsI .u8 w8 (some ⟨w2.heap.size, 0, none⟩) (la + lb) (la + lb) (za ++ zb)) := hAB7.out.later hb8
  have hBA8 : Hid (IsI .u8 w8 (some ⟨w4.heap.size, 0, none⟩) (lb + la) (la + lb) (zb ++ za)) := hBA7.out.later hb8
  have hbw8 := hbw7.trans (hb8.mono hbw7.size)
  clear hb8 hbw7 hB7 hAB7 hBA7
  go_wp2_with fail
  refine (zzresult_calls (some ⟨w2.heap.size, 0, none⟩) none none (la + lb) (la + lb) 0 0 0 (za ++ zb) [] [] 0 ⟨#[]⟩ w8 (by omega) (by omega) hAB8.out (HN.out _) (HN.out _)).mono ?_
  rintro e w9 ⟨r3, g3, rfl, hb9, hr3, _⟩
  have HR3 : Hid (IsRep w9 r3 (cnt pT (za ++ zb)) (cnt pC (za ++ zb)) (cnt pA (za ++ zb)) (cnt pU (za ++ zb)) (.slice (some ⟨g3, 0, none⟩) 0 0) 0 ⟨#[]⟩) := hr3
  clear hr3
  have HR1 : Hid (IsRep w9 r1 (cnt pT za) (cnt pC za) (cnt pA za) (cnt pU za) (.slice (some ⟨g1, 0, none⟩) 0 0) 0 ⟨#[]⟩) := HR1.out.later hb9
  have HR2 : Hid (IsRep w9 r2 (cnt pT zb) (cnt pC zb) (cnt pA zb) (cnt pU zb) (.slice (some ⟨g2, 0, none⟩) 0 0) 0 ⟨#[]⟩) := HR2.out.later hb9
  have hBA9 : Hid (IsI .u8 w9 (some ⟨w4.heap.size, 0, none⟩) (lb + la) (la + lb) (zb ++ za)) := hBA8.out.later hb9
  have hbw9 := hbw8.trans (hb9.mono hbw8.size)
  clear hb9 hbw8 hAB8 hBA8
  go_wp2_with fail
  refine (zzresult_calls (some ⟨w4.heap.size, 0, none⟩) none none (lb + la) (la + lb) 0 0 0 (zb ++ za) [] [] 0 ⟨#[]⟩ w9 (by omega) (by omega) hBA9.out (HN.out _) (HN.out _)).mono ?_
  rintro e w10 ⟨r4, g4, rfl, hb10, hr4, _⟩
  have hr1 := HR1.out.later hb10
  have hr2 := HR2.out.later hb10
  have hr3 := HR3.out.later hb10
  have hbw10 := hbw9.trans (hb10.mono hbw9.size)
  rw [cnt_append, cnt_append, cnt_append, cnt_append] at hr3
  rw [cnt_append, cnt_append, cnt_append, cnt_append, Nat.add_comm (cnt pT zb), Nat.add_comm (cnt pC zb), Nat.add_comm (cnt pA zb), Nat.add_comm (cnt pU zb)] at hr4
  have sa := cnt_sum za
  have sb := cnt_sum zb
  have ta := cnt_le pT za
  have tb := cnt_le pT zb
  rw [hlA] at ta
  rw [hlB] at tb
  clear hb10 hbw9 hBA9 HR1 HR2 HR3 HN hlA hlB hmk hi hz0 hz1 hz2 i0
  generalize cnt pT za = T1 at *
  generalize cnt pC za = C1 at *
  generalize cnt pA za = A1 at *
  generalize cnt pU za = U1 at *
  generalize cnt pT zb = T2 at *
  generalize cnt pC zb = C2 at *
  generalize cnt pA zb = A2 at *
  generalize cnt pU zb = U2 at *
  have p10 := hr1.c0
  have p11 := hr1.c1
  have p12 := hr1.c2
  have p13 := hr1.c3
  have p20 := hr2.c0
  have p21 := hr2.c1
  have p22 := hr2.c2
  have p23 := hr2.c3
  have p30 := hr3.c0
  have p31 := hr3.c1
  have p32 := hr3.c2
  have p33 := hr3.c3
  have p40 := hr4.c0
  have p41 := hr4.c1
  have p42 := hr4.c2
  have p43 := hr4.c3
  have sa1 : C1 + A1 + U1 ≤ T1 := by omega
  have sa2 : T1 ≤ C1 + A1 + U1 := by omega
  have sb1 : C2 + A2 + U2 ≤ T2 := by omega
  have sb2 : T2 ≤ C2 + A2 + U2 := by omega
  have hq : (((C1 : Int) + (C2 : Int) + ((A1 : Int) + (A2 : Int)) + ((U1 : Int) + (U2 : Int))) != ((T1 : Int) + (T2 : Int))) = false := by
    rw [bne_eq_false_iff_eq]; omega
  clear hr1 hr2 hr3 hr4 sa sb
  go_wp2_with fail
  go_quiet (fail)
  go_wp2_with fail
  go_quiet (fail)
  go_wp2_with fail
  go_quiet (fail)
  go_wp2_with fail
  go_ret
  exact ⟨rfl, below_drewN (below_drewN (below_drewN hbw10 _) _) _⟩
end Go.Proofs.Qxb6602594a

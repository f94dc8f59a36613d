import Derived.Test.Qxb6602594aOutA
namespace Go.Proofs.Qxb6602594a
open Go.RowKit
set_option linter.unusedSimpArgs false
set_option linter.unusedVariables false

def tallyZero : Array Value := Array.replicate 256 (.int .i64 0)
theorem zero28 (w : World) : (zeroValue 28).run Try.prog w = .ok (.agg tallyZero) w := by kernel_rfl
def pE (j : Nat) (z : Int) : Bool := z == (j : Int)

theorem row_tally (w : World) : (w.alloc (.cells tallyZero 28)).rowIs w.heap.size 28 256 (fun j => .int .i64 0) := by
  refine ⟨tallyZero, Go.Deep.blk_alloc_new _ _, by simp [tallyZero], fun i hi => ?_⟩
  simp [tallyZero, hi]

theorem cnt_four (zs : List Int) : cnt pT zs + cnt (pE 4) zs = zs.length := by
  induction zs with
  | nil => rfl
  | cons z zs ih =>
    simp only [cnt, List.countP_cons, List.length_cons] at ih ⊢
    have : (if pT z = true then 1 else 0) + (if pE 4 z = true then 1 else 0) = (1 : Nat) := by
      unfold pT pE
      by_cases h : z = 4
      · simp [h]
      · simp [h]
    omega
theorem cnt_one (zs : List Int) : cnt (pE 1) zs = cnt pC zs := rfl
theorem cnt_two (zs : List Int) : cnt (pE 2) zs = cnt pA zs := rfl

set_option maxRecDepth 100000 in
set_option maxHeartbeats 1000000 in
theorem out_walk (a ak ad : Option Addr) (n cap lk ck ld cd : Nat) (zs : List Int) (ks ds : List ByteArray) (al : Int) (ac : ByteArray) (w : World)
    (hn : n ≤ maxLen) (hk : lk ≤ maxLen) (hd : ld ≤ maxLen) (hac : ac.size ≤ maxLen) (hz : IsI .u8 w a n cap zs) (hwf : ∀ i, 0 ≤ zs.getD i 0 ∧ zs.getD i 0 ≤ 255) (hks : IsS w ak lk ck ks) (hds : IsS w ad ld cd ds) :
    Calls Try.prog 3 #[.slice a n cap, .slice ak lk ck, .slice ad ld cd, .int .i64 al, .string ac] w fun e w' => e = .returned (.bool true) ∧ Below w.heap.size w w' := by
  have HZ : Hid (IsI .u8 w a n cap zs) := hz
  have HK : Hid (IsS w ak lk ck ks) := hks
  have HD : Hid (IsS w ad ld cd ds) := hds
  have HW : Hid (∀ i, 0 ≤ zs.getD i 0 ∧ zs.getD i 0 ≤ 255) := hwf
  clear hz hks hds hwf
  go_enter Try.func3, Try.ntmps3
  go_wp2_with fail
  refine (outBytes_any a ak ad n cap lk ck ld cd ks ds al ac w hn hk hd hac HK.out HD.out).mono ?_
  rintro e w' ⟨⟨b, rfl, hb⟩, rfl⟩
  cases b with
  | false =>
    go_wp2
    go_ret
    exact ⟨rfl, Below.refl _ _⟩
  | true =>
    obtain ⟨h1, h2, h3, h4⟩ := hb rfl
    clear hb hn hk hd hac
    go_wp2_with fail
    refine (repBytes_any a ak ad n cap lk ck ld cd ks ds ac w h1 h2 h3 HK.out HD.out).mono ?_
    rintro e w' ⟨⟨z, rfl⟩, rfl⟩
    by_cases hz : 1048576 < z
    · go_wp2
      go_ret
      exact ⟨rfl, Below.refl _ _⟩
    · by_cases hlk : ld = lk
      · subst hlk
        go_wp2_with fail
        refine (cloneU8_calls a n cap zs w h1 HZ.out).mono ?_
        rintro e w1 ⟨a1, cap1, rfl, hb1, hA1⟩
        have HA1 : Hid (IsI .u8 w1 a1 n cap1 zs) := hA1
        clear hA1
        go_wp2_with fail
        refine (cloneStrs_calls ak ld ck ks w1 h2 (HK.out.later hb1)).mono ?_
        rintro e w2 ⟨ak2, ck2, rfl, hb2, hK2⟩
        have HK2 : Hid (IsS w2 ak2 ld ck2 ks) := hK2
        have HA2 : Hid (IsI .u8 w2 a1 n cap1 zs) := HA1.out.later hb2
        have hbw2 := hb1.trans (hb2.mono hb1.size)
        clear hK2 HA1 hb1 hb2
        go_wp2_with fail
        refine (cloneStrs_calls ad ld cd ds w2 h3 (HD.out.later hbw2)).mono ?_
        rintro e w3 ⟨ad3, cd3, rfl, hb3, hD3⟩
        have HD3 : Hid (IsS w3 ad3 ld cd3 ds) := hD3
        have HK3 : Hid (IsS w3 ak2 ld ck2 ks) := HK2.out.later hb3
        have HA3 : Hid (IsI .u8 w3 a1 n cap1 zs) := HA2.out.later hb3
        have hbw3 := hbw2.trans (hb3.mono hbw2.size)
        clear hD3 HK2 HA2 hbw2 hb3 HZ HK HD
        have hz28 := zero28
        go_wp2_with fail
        go_loopw [12] (fun i wr => ∃ k : Nat, k ≤ n ∧ i = .int .i64 k ∧ Below w3.heap.size w3 wr ∧ wr.rowIs w3.heap.size 28 256 (fun j => .int .i64 (cnt (pE j) (zs.take k)))) (fun i _ => n - (intOf i).toNat)
        case atStart => exact ⟨0, Nat.zero_le _, rfl, (Below.refl _ _).alloc (Nat.le_refl _) _, by simpa [cnt] using row_tally w3⟩
        case round =>
          obtain ⟨k, hkn, rfl, hbr, hrow⟩ := hrel
          by_cases hlt : k < n
          · obtain ⟨b, off, hx, hc⟩ := HA3.out.at_ (by omega)
            subst hx
            have hl3 := HA3.out.length
            have hck : wr.cell? ⟨b, off + k, none⟩ = some (.int .u8 (zs.getD k 0)) := by
              rw [hbr.cell (World.block_lt_of_cell? w3 _ (hc k hlt))]; exact hc k hlt
            clear hc
            have hzk := HW.out k
            have HE : Hid (∀ j, cnt (pE j) (zs.take (k + 1)) = cnt (pE j) (zs.take k) + if pE j (zs.getD k 0) then 1 else 0) := fun j => cnt_take (pE j) zs k (by omega)
            generalize hy : zs.getD k 0 = y at *
            obtain ⟨y', rfl⟩ := Int.eq_ofNat_of_zero_le hzk.1
            have hy2 : y' < 256 := by omega
            have hcy := hrow.cell (i := y') hy2
            have hfy := hrow.frozen y'
            have hcl := cnt_le (pE y') (zs.take k)
            have hll : (zs.take k).length ≤ k := List.length_take_le _ _
            clear hy hl3
            go_wp2
            go_roundw
            case rel =>
              refine ⟨k + 1, by omega, by go_num, hbr.setCell (Nat.le_refl _) _, ?_⟩
              refine (hrow.set y' _).congr (fun j hj => ?_)
              have e := HE.out j
              by_cases hjy : j = y'
              · subst hjy
                rw [if_pos rfl, e]
                simp [pE]
              · rw [if_neg hjy, e]
                have : ¬ (y' : Int) = (j : Int) := by omega
                simp [pE, this]
            case measure => simp [intOf]; omega
          · obtain rfl : k = n := by omega
            have hl3 := HA3.out.length
            rw [List.take_of_length_le (by omega)] at hrow
            have t4 := hrow.cell (i := 4) (by omega)
            have t1 := hrow.cell (i := 1) (by omega)
            have t2 := hrow.cell (i := 2) (by omega)
            rw [cnt_one] at t1
            rw [cnt_two] at t2
            have c4 := cnt_four zs
            have cs := cnt_sum zs
            have HA4 : Hid (IsI .u8 wr a1 k cap1 zs) := HA3.out.later hbr
            have HK4 : Hid (IsS wr ak2 ld ck2 ks) := HK3.out.later hbr
            have HD4 : Hid (IsS wr ad3 ld cd3 ds) := HD3.out.later hbr
            have hbw4 := hbw3.trans (hbr.mono hbw3.size)
            clear HA3 HK3 HD3 hbw3 hrow
            have cle := cnt_le (pE 4) zs
            have HC : Hid (cnt pT zs + cnt (pE 4) zs = zs.length ∧ cnt pC zs + cnt pA zs + cnt pU zs = cnt pT zs) := ⟨c4, cs⟩
            have cl1 := cnt_le pC zs
            have cl2 := cnt_le pA zs
            clear c4 cs
            go_wp2_with fail
            refine (zzresult_calls a1 ak2 ad3 k cap1 ld ck2 cd3 zs ks ds al ac wr h1 h2 HA4.out HK4.out HD4.out).mono ?_
            rintro e w5 ⟨r, ga, rfl, hb5, hrep, hano⟩
            have HK5 : Hid (IsS w5 ak2 ld ck2 ks) := HK4.out.later hb5
            have HD5 : Hid (IsS w5 ad3 ld cd3 ds) := HD4.out.later hb5
            have hbw5 := hbw4.trans (hb5.mono hbw4.size)
            have c0 := hrep.c0
            have c1 := hrep.c1
            have c2 := hrep.c2
            have c3 := hrep.c3
            have c4 := hrep.c4
            have c5 := hrep.c5
            have c6 := hrep.c6
            have HO : Hid (w5.rowIs ga 35 (ld * 2) (fun i => .string (if i % 2 = 0 then ks.getD (i / 2) ByteArray.empty else ds.getD (i / 2) ByteArray.empty))) := hano
            clear hano hrep HA4 HK4 HD4 hbw4 hb5 t1 t2 t4
            obtain ⟨e1, e2⟩ := HC.out
            rw [hl3] at e1
            clear HC cl1 cl2 cle
            generalize cnt pT zs = T at *
            generalize cnt pC zs = C at *
            generalize cnt pA zs = A at *
            generalize cnt pU zs = U at *
            generalize cnt (pE 4) zs = F at *
            have q1 : ((T : Int) != (k : Int) - (F : Int)) = false := by rw [bne_eq_false_iff_eq]; omega
            have q2 : ((U : Int) != (k : Int) - (F : Int) - (C : Int) - (A : Int)) = false := by rw [bne_eq_false_iff_eq]; omega
            clear e1 e2 hl3
            go_wp2_with fail
            go_loopw [18] (fun i wx => ∃ m : Nat, m ≤ ld ∧ i = .int .i64 m ∧ ∃ nq, wx = w5.drewN nq) (fun i _ => ld - (intOf i).toNat)
            case atStart => exact ⟨0, Nat.zero_le _, rfl, 0, rfl⟩
            case round =>
              obtain ⟨m, hml, rfl, nq, rfl⟩ := hrel
              by_cases hlm : m < ld
              · obtain ⟨b, off, hx, hc⟩ := HK5.out.at_ (by omega)
                obtain ⟨b', off', hx', hc'⟩ := HD5.out.at_ (by omega)
                subst hx hx'
                have hck := hc m hlm
                have hcd := hc' m hlm
                have ho0 : w5.cell? ⟨ga, m * 2, none⟩ = some (.string (ks.getD m ByteArray.empty)) := by
                  rw [HO.out.cell (i := m * 2) (by omega), show (m * 2) % 2 = 0 by omega, show (m * 2) / 2 = m by omega, if_pos rfl]
                have ho1 : w5.cell? ⟨ga, m * 2 + 1, none⟩ = some (.string (ds.getD m ByteArray.empty)) := by
                  rw [HO.out.cell (i := m * 2 + 1) (by omega), show (m * 2 + 1) % 2 = 1 by omega, show (m * 2 + 1) / 2 = m by omega, if_neg (by omega)]
                clear hc hc'
                generalize ks.getD m ByteArray.empty = sk at *
                generalize ds.getD m ByteArray.empty = sd at *
                go_wp2_with fail
                go_quiet (fail)
                go_wp2
                go_roundw
                case rel => exact ⟨m + 1, by omega, by go_num, _, rfl⟩
                case measure => simp [intOf]; omega
              · go_wp2
                go_ret
                exact ⟨rfl, below_drewN hbw5 _⟩
      · have hne : ((ld : Int) != (lk : Int)) = true := by simp; omega
        go_wp2
        go_ret
        exact ⟨rfl, Below.refl _ _⟩
end Go.Proofs.Qxb6602594a

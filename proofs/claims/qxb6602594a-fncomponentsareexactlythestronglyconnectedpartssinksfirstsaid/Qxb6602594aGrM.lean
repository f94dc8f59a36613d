import Derived.Test.Qxb6602594aGrL
import Derived.Deep.CutRange
import Derived.BigRegion
import Derived.BigQuiet
namespace Go.Proofs.Qxb6602594a
open Go.RowKit
set_option linter.unusedSimpArgs false
set_option linter.unusedVariables false


theorem wrap_zero (v : BitVec 64) (h : IntKind.i64.wrap (v.toNat : Int) = 0) : v = 0#64 := by
  have hv := v.isLt
  rw [IntKind.wrap_i64] at h
  have h0 : v.toNat = 0 := by omega
  exact BitVec.eq_of_toNat_eq (by simpa using h0)
theorem and_zero {x y : Int} (h : bits BinOp.and IntKind.i64 x y = 0) : BitVec.ofInt 64 x &&& BitVec.ofInt 64 y = 0#64 := wrap_zero _ h
theorem andNot_zero {x y : Int} (h : bits BinOp.andNot IntKind.i64 x y = 0) : BitVec.ofInt 64 x &&& ~~~ (BitVec.ofInt 64 y) = 0#64 := wrap_zero _ h
theorem bv_three (a b c : BitVec 64) (h1 : a &&& ~~~ b = 0#64) (h2 : c &&& b = 0#64) : c &&& a = 0#64 := by
  apply BitVec.eq_of_getLsbD_eq
  intro i hi
  have e1 := congrArg (fun v => v.getLsbD i) h1
  have e2 := congrArg (fun v => v.getLsbD i) h2
  simp only [BitVec.getLsbD_and, BitVec.getLsbD_not, BitVec.getLsbD_zero, hi, decide_true, Bool.true_and] at e1 e2 ⊢
  revert e1 e2
  generalize a.getLsbD i = p
  generalize b.getLsbD i = q
  generalize c.getLsbD i = r
  cases p <;> cases q <;> cases r <;> simp
theorem zero_and {x y : Int} (h : BitVec.ofInt 64 x &&& BitVec.ofInt 64 y = 0#64) : bits BinOp.and IntKind.i64 x y = 0 := by
  show IntKind.i64.wrap ((BitVec.ofInt 64 x &&& BitVec.ofInt 64 y).toNat : Int) = 0
  rw [h]
  rfl
theorem cts_wider {kinds wider k : Int} (h : bits BinOp.andNot IntKind.i64 kinds wider = 0) (hc : cts kinds k = true) : cts wider k = true := by
  rcases Bool.eq_false_or_eq_true (cts wider k) with h1 | h1
  · exact h1
  · exfalso
    have h2 : bits BinOp.and IntKind.i64 k wider = 0 := by simpa [cts] using h1
    have h3 := zero_and (bv_three _ _ _ (andNot_zero h) (and_zero h2))
    simp [cts, h3] at hc
theorem EdOk.narrow {tl : Nat} {tz kz : List Int} {n : Nat} {kinds wider e : Int} (h : bits BinOp.andNot IntKind.i64 kinds wider = 0) (ho : EdOk tl tz kz n wider e) : EdOk tl tz kz n kinds e :=
  ⟨ho.1, ho.2.1, fun hc => ho.2.2 (cts_wider h hc)⟩
theorem adj_wider {tz kz : List Int} {rs : List (List Int)} {kinds wider : Int} (h : bits BinOp.andNot IntKind.i64 kinds wider = 0) : ∀ x y, Tj.Ed (adj tz kz rs kinds) x y → Tj.Ed (adj tz kz rs wider) x y := by
  intro x y hy
  obtain ⟨e, he, h1⟩ := List.mem_map.1 hy
  refine List.mem_map.2 ⟨e, he, ?_⟩
  split at h1
  · rename_i hc
    rw [if_pos (cts_wider h hc)]
    exact h1
  · cases h1
theorem adj_dom {n : Nat} {tz kz : List Int} {rs : List (List Int)} {kinds : Int} (hl : rs.length = n) {x y : Nat} (hy : Tj.Ed (adj tz kz rs kinds) x y) : x < n := by
  obtain ⟨e, he, _⟩ := List.mem_map.1 hy
  rcases Nat.lt_or_ge x n with h | h
  · exact h
  · have : rs.getD x [] = [] := by rw [List.getD_eq_getElem?_getD, List.getElem?_eq_none (by omega)]; rfl
    rw [this] at he
    simp at he
/-- Where more edges count, a part of the fine division lies in one part of the coarse. -/
theorem merged {n : Nat} {tz kz : List Int} {rs : List (List Int)} {kinds wider : Int} (hl : rs.length = n) (h : bits BinOp.andNot IntKind.i64 kinds wider = 0) {c1 c2 : Nat → Nat} {k1 k2 : Nat}
    (h1 : Tj.Fin n (adj tz kz rs kinds) c1 k1) (h2 : Tj.Fin n (adj tz kz rs wider) c2 k2) (u v : Nat) (hu : u < n) (hv : v < n) (e : c1 u = c1 v) : c2 u = c2 v := by
  have le : ∀ u v, u < n → v < n → c1 u = c1 v → c2 v ≤ c2 u := fun u v hu hv e =>
    Tj.Conn.le c2 (fun a b hab => h2.down a b (adj_dom hl hab) hab) ((h1.conn u v hu hv e).mono (adj_wider h))
  have p := le u v hu hv e
  have q := le v u hv hu e.symm
  omega

set_option maxRecDepth 100000 in
set_option maxHeartbeats 4000000 in
theorem merge_walk (ta ka oa : Option Addr) (tl tc kl kc n oc : Nat) (tz kz : List Int) (rs : List (List Int)) (kinds wider : Int) (w : World)
    (ht : tl ≤ maxLen) (hk : kl ≤ maxLen) (hn : n ≤ maxLen) (hr : ∀ i, i < n → (rs.getD i []).length ≤ maxLen) (hT : IsI .i32 w ta tl tc tz) (hK : IsI .i64 w ka kl kc kz) (hO : IsRows w oa n oc rs) (hrw : ∀ i, I32s (rs.getD i [])) (htw : I32s tz) :
    Calls Try.prog 8 #[.slice ta tl tc, .slice ka kl kc, .slice oa n oc, .int .i64 kinds, .int .i64 wider] w fun e w' => e = .returned (.bool true) ∧ Below w.heap.size w w' := by
  have HT : Hid (IsI .i32 w ta tl tc tz) := hT
  have HK : Hid (IsI .i64 w ka kl kc kz) := hK
  have HO : Hid (IsRows w oa n oc rs) := hO
  have HR : Hid (∀ i, i < n → (rs.getD i []).length ≤ maxLen) := hr
  have HW : Hid (∀ i, I32s (rs.getD i [])) := hrw
  have HTW : Hid (I32s tz) := htw
  clear hT hK hO hr hrw htw
  go_enter Try.func8, Try.ntmps8
  go_wp2_with fail
  refine (grBytes38 ta ka oa tl tc kl kc n oc rs kinds wider _ ht hk hn HR.out HO.out).mono ?_
  rintro e w1 ⟨⟨bo, rfl, hbo⟩, rfl⟩
  clear ht hk hn
  cases bo with
  | false =>
    go_wp2
    go_ret
    exact ⟨rfl, Below.refl _ _⟩
  | true =>
  obtain ⟨ht, hk, hn, hr⟩ := hbo rfl
  have HR2 : Hid (∀ i, i < n → (rs.getD i []).length ≤ 1048576) := hr
  clear hbo hr
  go_wp2_with fail
  refine (dgBytes_any ta ka oa tl tc kl kc n oc rs _ ht hk hn HR2.out HO.out).mono ?_
  rintro e w2 ⟨⟨z, rfl⟩, rfl⟩
  by_cases hz : (1048576 : Int) < z
  · go_wp2
    go_ret
    exact ⟨rfl, Below.refl _ _⟩
  by_cases hkw : bits BinOp.andNot IntKind.i64 kinds wider = 0
  case neg =>
    have hb0 : (bits BinOp.andNot IntKind.i64 kinds wider != 0) = true := by simpa using hkw
    go_wp2
    go_ret
    exact ⟨rfl, Below.refl _ _⟩
  case pos =>
    have hb0 : (bits BinOp.andNot IntKind.i64 kinds wider != 0) = false := by simpa using hkw
    have HKW : Hid (bits BinOp.andNot IntKind.i64 kinds wider = 0) := hkw
    clear hkw
    go_wp2_with fail
    refine (domain_any ta ka oa tl tc kl kc n oc tz kz rs wider _ ht hk hn HR2.out HT.out HK.out HO.out HW.out HTW.out).mono ?_
    rintro e w3 ⟨⟨b2, rfl, hb2⟩, rfl⟩
    cases b2 with
    | false =>
      go_wp2
      go_ret
      exact ⟨rfl, Below.refl _ _⟩
    | true =>
    obtain ⟨hkl, hno⟩ := hb2 rfl
    clear hb2 hb0
    subst hkl
    have HNO : Hid (RowsAll n rs (EdOk _ tz kz n wider)) := hno
    clear hno hz
    go_wp2_with fail
    refine (cloneI32_calls ta _ tc tz _ ht HT.out).mono ?_
    rintro e w4 ⟨ta', tc', rfl, hb4, hT4⟩
    have HT4 := Hid.mk' hT4
    have HB4 := Hid.mk' hb4
    clear hT4 hb4
    go_wp2_with fail
    refine (cloneInts_calls ka _ kc kz _ hk (HK.out.later HB4.out)).mono ?_
    rintro e w5 ⟨ka', kc', rfl, hb5, hK5⟩
    have HK5 := Hid.mk' hK5
    have HB5 := Hid.mk' (HB4.out.trans (hb5.mono HB4.out.size))
    have HT5 := Hid.mk' (HT4.out.later hb5)
    clear hK5 hb5 HT4 HB4
    go_wp2_with fail
    refine (cloneRows_calls oa n oc rs _ hn HR2.out (HO.out.later HB5.out)).mono ?_
    rintro e w6 ⟨oa', oc', rfl, hb6, hO6⟩
    have HO6 := Hid.mk' hO6
    have HT6 := Hid.mk' (HT5.out.later hb6)
    have HK6 := Hid.mk' (HK5.out.later hb6)
    have HB6 := Hid.mk' (HB5.out.trans (hb6.mono HB5.out.size))
    clear hO6 hb6 HT5 HK5 HB5
    go_wp2_with fail
    refine (zzcomp_calls ta' ka' oa' _ tc' kc' n oc' tz kz rs kinds _ ht hn HR2.out HT6.out HK6.out HO6.out (fun k hk m hm => (HNO.out k hk m hm).narrow HKW.out) HTW.out).mono ?_
    rintro e w7 ⟨rb, S1, rfl, hb7, f1, f2, f3, f4⟩
    have HG1 : Hid (∀ x y, x < n → Tj.Ed (adj tz kz rs kinds) x y → y < n) := adj_lt (fun k hk m hm => (HNO.out k hk m hm).narrow HKW.out)
    have HF1 := Hid.mk' ((f1.inv HG1.out).fin f2 f3)
    have HN1 : Hid (S1.comps ≤ n) := by have q1 := (f1.num HG1.out).comps; have q2 := (f1.num HG1.out).nextle; show S1.comps ≤ n; omega
    have HR7 := Hid.mk' f4
    have HB7 := Hid.mk' (HB6.out.trans (hb7.mono HB6.out.size))
    have HO7 := Hid.mk' (HO6.out.later hb7)
    have HT7 := Hid.mk' (HT6.out.later hb7)
    have HK7 := Hid.mk' (HK6.out.later hb7)
    clear f1 f2 f3 f4 hb7 HO6 HT6 HK6 HB6 HG1
    go_wp2_with fail
    refine (zzcomp_calls ta' ka' oa' _ tc' kc' n oc' tz kz rs wider _ ht hn HR2.out HT7.out HK7.out HO7.out HNO.out HTW.out).mono ?_
    rintro e w8 ⟨rb2, S2, rfl, hb8, f1, f2, f3, f4⟩
    have HG2 : Hid (∀ x y, x < n → Tj.Ed (adj tz kz rs wider) x y → y < n) := adj_lt HNO.out
    have HF2 := Hid.mk' ((f1.inv HG2.out).fin f2 f3)
    have HN2 : Hid (S2.comps ≤ n) := by have q1 := (f1.num HG2.out).comps; have q2 := (f1.num HG2.out).nextle; show S2.comps ≤ n; omega
    have HR8 : Hid (w8.rowIs rb 21 n (fun i => iv (S1.comp i))) := HR7.out.of_block (hb8.block _ HR7.out.lt)
    have HS8 := Hid.mk' f4
    have HB8 := Hid.mk' (HB7.out.trans (hb8.mono HB7.out.size))
    have HM : Hid (∀ u v, u < n → v < n → S1.comp u = S1.comp v → S2.comp u = S2.comp v) := merged HO.out.length HKW.out HF1.out HF2.out
    have HL1 : Hid (∀ v, v < n → S1.comp v < n) := fun v hv => Nat.lt_of_lt_of_le (HF1.out.lt v hv) HN1.out
    have HL2 : Hid (∀ v, v < n → S2.comp v < n) := fun v hv => Nat.lt_of_lt_of_le (HF2.out.lt v hv) HN2.out
    clear f1 f2 f3 f4 hb8 HO7 HT7 HK7 HB7 HG2 HR7 HN1 HN2 HF1 HF2
    have hmk := fun w => run_make_row' (P := Try.prog) 48 21 (.int .i32 0) 4 Try.underlying48 Try.info21 rfl .i64 .i64 n (by omega) (by omega) w
    go_wp2_with fail
    go_loopg [15] n (fun gk i wr => ∃ k : Nat, k ≤ n ∧ gk + k = n ∧ i = .int .i64 k ∧ Below w8.heap.size w8 wr ∧ wr.rowIs w8.heap.size 21 n (fun j => .int .i32 (if j < k then -1 else 0)))
    case atStart =>
      refine ⟨0, Nat.zero_le _, rfl, rfl, (Below.refl _ _).alloc (Nat.le_refl _) _, ?_⟩
      exact (World.rowIs_made w8 (.int .i32 0) n 21).congr (fun i _ => by simp)
    case round =>
      obtain ⟨k, hkn, hgk, rfl, hb, hrow⟩ := hrel
      by_cases hlt : k < n
      · have hc := hrow.cell (i := k) hlt
        have hf := hrow.frozen k
        go_wp2
        go_roundg (n - (k + 1))
        case rel =>
          refine ⟨k + 1, by omega, by omega, by go_num, hb.setCell (Nat.le_refl _) _, (hrow.set k _).congr (fun j hj => ?_)⟩
          by_cases hjk : j = k
          · subst hjk; simp
          · by_cases h2 : j < k
            · simp [hjk, h2, Nat.lt_succ_of_lt h2]
            · have : ¬ j < k + 1 := by omega
              simp [hjk, h2, this]
        case measure => omega
      · have hkn' : k = n := by omega
        subst hkn'
        clear hlt hkn hgk
        have hrow0 : wr.rowIs w8.heap.size 21 k (fun _ => .int .i32 (-1)) := hrow.congr (fun i hi => by simp [hi])
        have HRW := Hid.mk' hrow0
        have HBW := Hid.mk' hb
        clear hrow hb hrow0
        go_wp2_with fail
        go_loopg [16] k (fun gk i wr2 => ∃ (m : Nat) (F : Nat → Int), m ≤ k ∧ gk + m = k ∧ i = .int .i64 m ∧ Below w8.heap.size w8 wr2 ∧ wr2.rowIs w8.heap.size 21 k (fun j => .int .i32 (F j)) ∧ (∀ f, F f = -1 ∨ ∃ x, x < m ∧ S1.comp x = f ∧ F f = (S2.comp x : Int)))
        case atStart => exact ⟨0, fun _ => -1, Nat.zero_le _, rfl, rfl, HBW.out, HRW.out, fun f => .inl rfl⟩
        case round =>
          obtain ⟨m, F, hmk2, hgm, rfl, hb, hrow, hF⟩ := hrel
          by_cases hlt : m < k
          · have c1 := HR8.out.cell (i := m) hlt
            have c2 := HS8.out.cell (i := m) hlt
            have l1 := World.block_lt_of_cell? w8 _ c1
            have l2 := World.block_lt_of_cell? w8 _ c2
            rw [← hb.cell l1] at c1
            rw [← hb.cell l2] at c2
            have b1 := HL1.out m hlt
            have b2 := HL2.out m hlt
            have cf := hrow.cell (i := S1.comp m) b1
            have ff := hrow.frozen (S1.comp m)
            have HROW := Hid.mk' hrow
            have HB := Hid.mk' hb
            have HFF := Hid.mk' hF
            have HFm := hF (S1.comp m)
            clear hrow hb hF
            rcases HFm with h0 | ⟨x, hx, hx1, hx2⟩
            · rw [h0] at cf
              go_wp2
              go_roundg (k - (m + 1))
              case rel =>
                refine ⟨m + 1, fun j => if j = S1.comp m then (S2.comp m : Int) else F j, by omega, by omega, by go_num, HB.out.setCell (Nat.le_refl _) _, (HROW.out.set (S1.comp m) _).congr (fun j hj => ?_), ?_⟩
                · by_cases hj2 : j = S1.comp m
                  · simp [hj2]
                  · simp [hj2]
                · intro f
                  by_cases hf : f = S1.comp m
                  · right
                    exact ⟨m, by omega, hf.symm, by simp [hf]⟩
                  · rcases HFF.out f with h | ⟨x, hx, hx1, hx2⟩
                    · left; simpa [hf] using h
                    · right; exact ⟨x, by omega, hx1, by simpa [hf] using hx2⟩
              case measure => omega
            · have he := HM.out x m (by omega) hlt hx1
              rw [hx2, he] at cf
              go_wp2
              go_roundg (k - (m + 1))
              case rel =>
                refine ⟨m + 1, F, by omega, by omega, by go_num, HB.out, HROW.out, fun f => ?_⟩
                rcases HFF.out f with h | ⟨x, hx, h1, h2⟩
                · exact .inl h
                · exact .inr ⟨x, by omega, h1, h2⟩
              case measure => omega
          · go_wp2
            go_ret
            exact ⟨rfl, HB8.out.trans (hb.mono HB8.out.size)⟩
end Go.Proofs.Qxb6602594a

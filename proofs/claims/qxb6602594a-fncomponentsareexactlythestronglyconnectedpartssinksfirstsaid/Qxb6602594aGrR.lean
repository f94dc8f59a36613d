import Derived.Test.Qxb6602594aGrM
import Derived.Deep.CutRange
import Derived.BigRegion
import Derived.BigQuiet
namespace Go.Proofs.Qxb6602594a
open Go.RowKit
set_option linter.unusedSimpArgs false
set_option linter.unusedVariables false


/-! ### the plain part of the certificate -/
theorem fwd_all {n : Nat} {G : Nat → List (Option Nat)} {c : Nat → Nat} {k : Nat} (hF : Tj.Fin n G c k) (hdom : ∀ x y, Tj.Ed G x y → x < n) (r : Nat → Nat) (seen : Nat → Bool)
    (hr : ∀ f, f < k → r f < n ∧ c (r f) = f) (h0 : ∀ f, f < k → seen (r f) = true) (hcl : ∀ x y, seen x = true → Tj.Ed G x y → c y = c x → seen y = true) : ∀ v, v < n → seen v = true := by
  intro v hv
  have hf := hF.lt v hv
  have h1 := hF.conn (r (c v)) v (hr _ hf).1 hv (hr _ hf).2
  have h2 := hF.conn v (r (c v)) hv (hr _ hf).1 (hr _ hf).2.symm
  exact (Tj.Conn.inside c (fun a b hab => hF.down a b (hdom a b hab) hab) h1 h2) (fun u => seen u = true) (h0 _ hf) (fun a b ha hab => hcl a b ha hab.1 hab.2.symm)
theorem back_all {n : Nat} {G : Nat → List (Option Nat)} {c : Nat → Nat} {k : Nat} (hF : Tj.Fin n G c k) (hdom : ∀ x y, Tj.Ed G x y → x < n) (r : Nat → Nat) (seen : Nat → Bool)
    (hr : ∀ f, f < k → r f < n ∧ c (r f) = f) (h0 : ∀ f, f < k → seen (r f) = true) (hcl : ∀ x y, seen y = true → Tj.Ed G x y → c y = c x → seen x = true) : ∀ v, v < n → seen v = true := by
  intro v hv
  have hf := hF.lt v hv
  have h1 := hF.conn (r (c v)) v (hr _ hf).1 hv (hr _ hf).2
  have h2 := hF.conn v (r (c v)) hv (hr _ hf).1 (hr _ hf).2.symm
  rcases Bool.eq_false_or_eq_true (seen v) with h | h
  · exact h
  · exfalso
    have := (Tj.Conn.inside c (fun a b hab => hF.down a b (hdom a b hab) hab) h2 h1) (fun u => seen u = false) h (fun a b ha hab => by
      rcases Bool.eq_false_or_eq_true (seen b) with hb | hb
      · have := hcl a b hb hab.1 hab.2.symm
        rw [ha] at this
        cases this
      · exact hb)
    rw [h0 _ hf] at this
    cases this

/-- The nodes met and the queue. -/
def uns (seen : Nat → Bool) (v : Nat) : Nat := if seen v then 0 else 1
structure Bs (n : Nat) (seen : Nat → Bool) (Q : List Nat) : Prop where
  lt : ∀ v ∈ Q, v < n
  mem : ∀ v, seen v = true → v ∈ Q
  num : Tj.rsum (uns seen) n + Q.length = n
theorem Bs.start (n : Nat) : Bs n (fun _ => false) [] := by
  refine ⟨by simp, by simp, ?_⟩
  have : uns (fun _ => false) = fun _ => 1 := by funext v; simp [uns]
  rw [this, Tj.rsum_one]
  simp
theorem Bs.le {n : Nat} {seen : Nat → Bool} {Q : List Nat} (h : Bs n seen Q) : Q.length ≤ n := by have := h.num; omega
theorem Bs.add {n : Nat} {seen : Nat → Bool} {Q : List Nat} (h : Bs n seen Q) (y : Nat) (hy : y < n) (hs : seen y = false) : Bs n (Tj.upd seen y true) (Q ++ [y]) := by
  refine ⟨?_, ?_, ?_⟩
  · intro v hv
    rcases List.mem_append.1 hv with hv | hv
    · exact h.lt v hv
    · rw [List.mem_singleton.1 hv]; exact hy
  · intro v hv
    by_cases e : v = y
    · simp [e]
    · rw [Tj.upd_other _ _ _ _ e] at hv
      exact List.mem_append_left _ (h.mem v hv)
  · have h1 := Tj.rsum_drop (f := uns seen) (g := uns (Tj.upd seen y true)) (y := y) n hy (by
      intro x hx
      simp [uns, Tj.upd_other _ _ _ _ hx])
    have h2 : uns seen y = 1 := by simp [uns, hs]
    have h3 : uns (Tj.upd seen y true) y = 0 := by simp [uns, Tj.upd_same]
    have h4 := h.num
    simp only [List.length_append, List.length_singleton]
    omega
theorem Bs.lt_n {n : Nat} {seen : Nat → Bool} {Q : List Nat} (h : Bs n seen Q) (y : Nat) (hy : y < n) (hs : seen y = false) : Q.length < n := by
  have := (h.add y hy hs).le
  simp at this
  omega

/-! ### the memory -/
theorem grown_set (w : World) (a : Addr) (v : Value) : w.grownBy (w.setCell a v) (some a.block) :=
  ⟨rfl, rfl, rfl, by simp, fun k _ hk => Go.Deep.blk_setCell_other _ _ _ _ (fun e => hk (by rw [e]))⟩
theorem own_set {w : World} {base : Nat} {e : TypeId} {size : Nat} {v : Value} {n : Nat} {xs : List Value} (h : w.ownsRow base e size v n xs) (a : Addr) (u : Value) (hne : v.ownBlock ≠ some a.block) : (w.setCell a u).ownsRow base e size v n xs :=
  h.kept (grown_set w a u) (.inr hne)
theorem own_apart {w : World} {base : Nat} {e : TypeId} {size : Nat} {v : Value} {n : Nat} {xs : List Value} (h : w.ownsRow base e size v n xs) {b : Nat} {t : TypeId} {m : Nat} {f : Nat → Value} (hr : w.rowIs b t m f) (ht : t ≠ e) : v.ownBlock ≠ some b := by
  obtain ⟨cc, hc, _⟩ := hr
  rcases h.2 with ⟨h1, _⟩ | ⟨g, cap, cur, h1, _, h3, _⟩
  · rw [h1]; simp [Value.ownBlock]
  · rw [h1]
    simp only [Value.ownBlock, ne_eq, Option.some.injEq]
    intro e1
    rw [e1, hc] at h3
    simp only [Option.some.injEq, Obj.cells.injEq] at h3
    exact ht h3.2.1
theorem row_push {w w' : World} {b : Nat} {t : TypeId} {m : Nat} {f : Nat → Value} {row : Option Nat} (hr : w.rowIs b t m f) (hne : row ≠ some b) (hg : w.grownBy w' row) : w'.rowIs b t m f :=
  hr.of_block (hg.block b hr.lt (Ne.symm hne))

structure Bq (V wr : World) (sb n : Nat) (seen : Nat → Bool) (vq : Value) (Q : List Nat) : Prop where
  below : Below V.heap.size V wr
  sbl : V.heap.size ≤ sb
  seen : wr.rowIs sb 4 n (fun i => .bool (seen i))
  que : wr.ownsRow (V.heap.size + 1) 21 1 vq Q.length (Q.map iv)
theorem Bq.mark {V wr : World} {sb n : Nat} {seen : Nat → Bool} {vq : Value} {Q : List Nat} (h : Bq V wr sb n seen vq Q) (y : Nat) : Bq V (wr.setCell ⟨sb, y, none⟩ (.bool true)) sb n (Tj.upd seen y true) vq Q :=
  ⟨h.below.setCell h.sbl _, h.sbl, (h.seen.set y _).congr (fun j _ => by unfold Tj.upd; split <;> rfl), own_set h.que _ _ (own_apart h.que h.seen (by decide))⟩
theorem Bq.alloc {V wr : World} {sb n : Nat} {seen : Nat → Bool} {vq : Value} {Q : List Nat} (h : Bq V wr sb n seen vq Q) (o : Obj) : Bq V (wr.alloc o) sb n seen vq Q :=
  ⟨h.below.alloc h.below.size _, h.sbl, h.seen.alloc _, h.que.alloc _⟩
theorem Bq.drewN {V wr : World} {sb n : Nat} {seen : Nat → Bool} {vq : Value} {Q : List Nat} (h : Bq V wr sb n seen vq Q) (k : Nat) : Bq V (wr.drewN k) sb n seen vq Q :=
  ⟨below_drewN h.below k, h.sbl, h.seen, h.que⟩
theorem Bq.push {V wr w' : World} {sb n : Nat} {seen : Nat → Bool} {vq v' : Value} {Q : List Nat} (h : Bq V wr sb n seen vq Q) {y : Nat} (h1 : w'.ownsRow (V.heap.size + 1) 21 1 v' (Q.length + 1) (Q.map iv ++ [iv y])) (hg : wr.grownBy w' vq.ownBlock) : Bq V w' sb n seen v' (Q ++ [y]) := by
  refine ⟨h.below.grown hg h.below.size (fun k hk => by have := (h.que.lt k hk).1; omega), h.sbl, row_push h.seen (own_apart h.que h.seen (by decide)) hg, ?_⟩
  simpa using h1
theorem Bq.at_ {V wr : World} {sb n : Nat} {seen : Nat → Bool} {vq : Value} {Q : List Nat} (h : Bq V wr sb n seen vq Q) (i : Nat) (hi : i < Q.length) : ∃ g cap, vq = .slice (some ⟨g, 0, none⟩) Q.length cap ∧ wr.cell? ⟨g, i, none⟩ = some (iv (Q.getD i 0)) := by
  rcases h.que.2 with ⟨_, h0⟩ | ⟨g, cap, cur, hv, _⟩
  · omega
  · refine ⟨g, cap, hv, ?_⟩
    have hq := h.que
    rw [hv] at hq
    rw [hq.cellAt i (by omega), List.getElem?_map, List.getElem?_eq_getElem hi, List.getD_eq_getElem?_getD, List.getElem?_eq_getElem hi]
    rfl
theorem Bq.form {V wr : World} {sb n : Nat} {seen : Nat → Bool} {vq : Value} {Q : List Nat} (h : Bq V wr sb n seen vq Q) : ∃ a cap, vq = .slice a Q.length cap := by
  rcases h.que.2 with ⟨h1, h0⟩ | ⟨g, cap, cur, hv, _⟩
  · exact ⟨none, 0, by rw [h1, h0]⟩
  · exact ⟨_, _, hv⟩
theorem getD_snoc (Q : List Nat) (y i : Nat) (hi : i < Q.length) : (Q ++ [y]).getD i 0 = Q.getD i 0 := by
  rw [List.getD_eq_getElem?_getD, List.getElem?_append_left hi, List.getD_eq_getElem?_getD]
theorem mem_getD {Q : List Nat} {v : Nat} (h : v ∈ Q) : ∃ i, i < Q.length ∧ Q.getD i 0 = v := by
  obtain ⟨i, hi, e⟩ := List.mem_iff_getElem.1 h
  exact ⟨i, hi, by rw [List.getD_eq_getElem?_getD, List.getElem?_eq_getElem hi]; exact e⟩

/-! ### counting the edges of a part by their heads -/
def hdB (tz kz : List Int) (kinds : Int) (c : Nat → Nat) (y x : Nat) (e : Int) : Bool := cts kinds (kz.getD e.toNat 0) && decide ((tz.getD e.toNat 0).toNat = y) && decide (c y = c x)
def rcn (tz kz : List Int) (rs : List (List Int)) (kinds : Int) (c : Nat → Nat) (y x i : Nat) : Nat := ((rs.getD x []).take i).countP (hdB tz kz kinds c y x)
def ecn (tz kz : List Int) (rs : List (List Int)) (kinds : Int) (c : Nat → Nat) (y x i : Nat) : Nat := Tj.rsum (fun x' => rcn tz kz rs kinds c y x' (rs.getD x' []).length) x + rcn tz kz rs kinds c y x i
section
variable {tz kz : List Int} {rs : List (List Int)} {kinds : Int} {c : Nat → Nat}
theorem ecn_zero (y : Nat) : ecn tz kz rs kinds c y 0 0 = 0 := by simp [ecn, rcn, Tj.rsum]
theorem ecn_row (y x : Nat) : ecn tz kz rs kinds c y x (rs.getD x []).length = ecn tz kz rs kinds c y (x + 1) 0 := by
  simp [ecn, Tj.rsum, rcn]
theorem ecn_succ (y x i : Nat) (hi : i < (rs.getD x []).length) : ecn tz kz rs kinds c y x (i + 1) = ecn tz kz rs kinds c y x i + (if hdB tz kz kinds c y x ((rs.getD x []).getD i 0) then 1 else 0) := by
  have e : (rs.getD x []).getD i 0 = (rs.getD x [])[i] := by rw [List.getD_eq_getElem?_getD, List.getElem?_eq_getElem hi]; rfl
  unfold ecn rcn
  rw [e, List.take_add_one, List.getElem?_eq_getElem hi, List.countP_append]
  simp [List.countP_cons]
  omega
theorem rsum_le {f g : Nat → Nat} : ∀ n, (∀ x, x < n → f x ≤ g x) → Tj.rsum f n ≤ Tj.rsum g n
  | 0, _ => Nat.le_refl _
  | n + 1, h => by
    simp only [Tj.rsum]
    have := rsum_le n (fun x hx => h x (by omega))
    have := h n (by omega)
    omega
theorem rsum_part (f : Nat → Nat) : ∀ n x, x < n → Tj.rsum f x + f x ≤ Tj.rsum f n
  | 0, _, h => absurd h (by omega)
  | n + 1, x, h => by
    simp only [Tj.rsum]
    by_cases e : x = n
    · subst e; omega
    · have := rsum_part f n x (by omega); omega
theorem rcn_le (y x i : Nat) : rcn tz kz rs kinds c y x i ≤ rcn tz kz rs kinds c y x (rs.getD x []).length := by
  unfold rcn
  rw [List.take_length]
  exact (List.take_sublist i _).countP_le
theorem ecn_le (n y x i : Nat) (hx : x < n) : ecn tz kz rs kinds c y x i ≤ ecn tz kz rs kinds c y n 0 := by
  have h1 := rsum_part (fun x' => rcn tz kz rs kinds c y x' (rs.getD x' []).length) n x hx
  have h2 := rcn_le (tz := tz) (kz := kz) (rs := rs) (kinds := kinds) (c := c) y x i
  have h3 : rcn tz kz rs kinds c y n 0 = 0 := by simp [rcn]
  unfold ecn
  omega
theorem ecn_sum_succ (n x i : Nat) (hi : i < (rs.getD x []).length) : Tj.rsum (fun y => ecn tz kz rs kinds c y x (i + 1)) n ≤ Tj.rsum (fun y => ecn tz kz rs kinds c y x i) n + 1 := by
  let y0 := (tz.getD ((rs.getD x []).getD i 0).toNat 0).toNat
  have hoff : ∀ y, y ≠ y0 → ecn tz kz rs kinds c y x (i + 1) = ecn tz kz rs kinds c y x i := by
    intro y hy
    rw [ecn_succ y x i hi, if_neg]
    · rfl
    · intro h
      simp only [hdB, Bool.and_eq_true, decide_eq_true_eq] at h
      exact hy h.1.2.symm
  by_cases hn : y0 < n
  · have h1 := Tj.rsum_drop (f := fun y => ecn tz kz rs kinds c y x i) (g := fun y => ecn tz kz rs kinds c y x (i + 1)) (y := y0) n hn hoff
    have h2 := ecn_succ (tz := tz) (kz := kz) (kinds := kinds) (c := c) y0 x i hi
    have h3 : ecn tz kz rs kinds c y0 x (i + 1) ≤ ecn tz kz rs kinds c y0 x i + 1 := by rw [h2]; split <;> omega
    omega
  · have h1 := Tj.rsum_congr (f := fun y => ecn tz kz rs kinds c y x (i + 1)) (g := fun y => ecn tz kz rs kinds c y x i) n (fun y hy => hoff y (by omega))
    omega
theorem ecn_sum_row (n x : Nat) (m : Nat) (hm : m ≤ (rs.getD x []).length) : Tj.rsum (fun y => ecn tz kz rs kinds c y x m) n ≤ Tj.rsum (fun y => ecn tz kz rs kinds c y x 0) n + m := by
  induction m with
  | zero => omega
  | succ m ih =>
    have h1 := ih (by omega)
    have h2 := ecn_sum_succ (tz := tz) (kz := kz) (rs := rs) (kinds := kinds) (c := c) n x m (by omega)
    omega
theorem ecn_sum (n : Nat) (hr : ∀ i, i < n → (rs.getD i []).length ≤ 1048576) : ∀ x, x ≤ n → Tj.rsum (fun y => ecn tz kz rs kinds c y x 0) n ≤ x * 1048576
  | 0, _ => by
    have : Tj.rsum (fun y => ecn tz kz rs kinds c y 0 0) n = Tj.rsum (fun _ => 0) n := Tj.rsum_congr n (fun y _ => ecn_zero y)
    rw [this]
    have z : ∀ n, Tj.rsum (fun _ => 0) n = 0 := by
      intro n
      induction n with
      | zero => rfl
      | succ n ih => simp [Tj.rsum, ih]
    rw [z]
    exact Nat.zero_le _
  | x + 1, hx => by
    have h1 := ecn_sum n hr x (by omega)
    have h2 := ecn_sum_row (tz := tz) (kz := kz) (rs := rs) (kinds := kinds) (c := c) n x (rs.getD x []).length (Nat.le_refl _)
    have h3 := hr x (by omega)
    have h4 := Tj.rsum_congr (f := fun y => ecn tz kz rs kinds c y x (rs.getD x []).length) (g := fun y => ecn tz kz rs kinds c y (x + 1) 0) n (fun y _ => ecn_row y x)
    omega
end
/-- An edge of the graph that stays in its part, as an edge of the rows. -/
theorem ed_hd {tz kz : List Int} {rs : List (List Int)} {kinds : Int} {c : Nat → Nat} {x y : Nat} (h : Tj.Ed (adj tz kz rs kinds) x y) (hc : c y = c x) : ∃ i, i < (rs.getD x []).length ∧ hdB tz kz kinds c y x ((rs.getD x []).getD i 0) = true := by
  obtain ⟨e, he, h1⟩ := List.mem_map.1 h
  obtain ⟨m, hm, rfl⟩ := List.mem_iff_getElem.1 he
  refine ⟨m, hm, ?_⟩
  have e : (rs.getD x []).getD m 0 = (rs.getD x [])[m] := by rw [List.getD_eq_getElem?_getD, List.getElem?_eq_getElem hm]; rfl
  rw [e]
  split at h1
  · rename_i hct
    simp only [Option.some.injEq] at h1
    unfold hdB
    rw [hct, h1]
    simp [hc]
  · cases h1
end Go.Proofs.Qxb6602594a

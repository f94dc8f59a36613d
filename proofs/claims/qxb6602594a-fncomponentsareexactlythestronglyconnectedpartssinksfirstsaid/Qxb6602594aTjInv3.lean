import Derived.Test.Qxb6602594aTjInv2
namespace Go.Proofs.Qxb6602594a.Tj
set_option linter.unusedVariables false
set_option linter.unusedSimpArgs false

theorem mem_edge {l : List (Option Nat)} {y : Nat} (h : some y ∈ l) : ∃ i, i < l.length ∧ l[i]? = some (some y) := by
  obtain ⟨i, hi, e⟩ := List.mem_iff_getElem.1 h
  exact ⟨i, hi, by rw [List.getElem?_eq_getElem hi, e]⟩

theorem top_on {n : Nat} {G : Nat → List (Option Nat)} {S : St} (h : Inv n G S) {x e : Nat} {fs : List (Nat × Nat)} (hf : S.frames = (x, e) :: fs) : S.on x = true := h.fon (x, e) (by rw [hf]; simp)
theorem top_max {n : Nat} {G : Nat → List (Option Nat)} {S : St} (h : Inv n G S) {x e : Nat} {fs : List (Nat × Nat)} (hf : S.frames = (x, e) :: fs) : ∀ f ∈ fs, S.index f.1 < S.index x := by
  intro f hf'
  have := h.fsorted
  simp only [path, hf, List.map_cons, List.pairwise_cons] at this
  exact this.1 f.1 (List.mem_map_of_mem hf')
theorem top_le {n : Nat} {G : Nat → List (Option Nat)} {S : St} (h : Inv n G S) {x e : Nat} {fs : List (Nat × Nat)} (hf : S.frames = (x, e) :: fs) : ∀ f ∈ S.frames, S.index f.1 ≤ S.index x := by
  intro f hf'
  rw [hf] at hf'
  rcases List.mem_cons.1 hf' with rfl | hf'
  · exact Nat.le_refl _
  · exact Nat.le_of_lt (top_max h hf f hf')
theorem top_not {n : Nat} {G : Nat → List (Option Nat)} {S : St} (h : Inv n G S) {x e : Nat} {fs : List (Nat × Nat)} (hf : S.frames = (x, e) :: fs) : x ∉ fs.map Prod.fst := by
  intro hx
  obtain ⟨f, h1, h2⟩ := List.mem_map.1 hx
  have := top_max h hf f h1
  rw [h2] at this
  exact Nat.lt_irrefl _ this
theorem top_vis {n : Nat} {G : Nat → List (Option Nat)} {S : St} (h : Inv n G S) {x e : Nat} {fs : List (Nat × Nat)} (hf : S.frames = (x, e) :: fs) (he : ¬ e < (G x).length) : ∀ y, Ed G x y → S.index y ≠ 0 := by
  intro y hy
  obtain ⟨i, hi, e1⟩ := mem_edge hy
  exact h.donef (x, e) (by rw [hf]; simp) i y (by simp; omega) e1
theorem top_low {n : Nat} {G : Nat → List (Option Nat)} {S : St} (h : Inv n G S) {x e : Nat} {fs : List (Nat × Nat)} (hf : S.frames = (x, e) :: fs) (he : ¬ e < (G x).length) : ∀ y, Ed G x y → S.on y = true → S.low x ≤ S.index y := by
  intro y hy ho
  obtain ⟨i, hi, e1⟩ := mem_edge hy
  exact h.lowf (x, e) (by rw [hf]; simp) i y (by simp; omega) e1 ho

theorem lowUp_le (S : St) (x : Nat) (fs : List (Nat × Nat)) (v : Nat) : lowUp S x fs v ≤ S.low v := by
  unfold lowUp
  split
  · exact Nat.le_refl _
  · rename_i p _ _
    by_cases e : v = p
    · rw [e, upd_same]; exact Nat.min_le_left _ _
    · rw [upd_other _ _ _ _ e]; exact Nat.le_refl _

theorem lowUp_other (S : St) (x : Nat) (fs : List (Nat × Nat)) (v : Nat) (hv : v ∉ fs.map Prod.fst) : lowUp S x fs v = S.low v := by
  unfold lowUp
  split
  · rfl
  · rename_i p _ _
    rw [upd_other]
    intro e
    exact hv (by simp [e])

/-- The top node is through and is no root of its part. -/
theorem Inv.popStay {n : Nat} {G : Nat → List (Option Nat)} {S : St} (h : Inv n G S) (x e : Nat) (fs : List (Nat × Nat)) (hf : S.frames = (x, e) :: fs) (he : ¬ e < (G x).length) (hl : S.low x ≠ S.index x) :
    Inv n G { S with frames := fs, low := lowUp S x fs } := by
  have hxon := top_on h hf
  have hxlt : S.low x < S.index x := Nat.lt_of_le_of_ne (h.lowle x hxon) hl
  have hmax := top_max h hf
  have htn := top_not h hf
  have hpath : path S = x :: fs.map Prod.fst := by simp [path, hf]
  have hpath' : path { S with frames := fs, low := lowUp S x fs } = fs.map Prod.fst := rfl
  have hsub : ∀ f ∈ fs, f ∈ S.frames := fun f hf' => by rw [hf]; exact List.mem_cons_of_mem _ hf'
  have hfin : ∀ v, v ∉ fs.map Prod.fst → v = x ∨ v ∉ path S := by
    intro v hv
    by_cases ev : v = x
    · exact .inl ev
    · refine .inr ?_
      rw [hpath]
      intro hm
      rcases List.mem_cons.1 hm with h1 | h1
      · exact ev h1
      · exact hv h1
  constructor
  · exact h.idxle
  · exact h.inj
  · exact h.vislt
  · exact h.memon
  · exact h.onvis
  · exact h.sorted
  · have := h.fsorted
    rw [hpath, List.pairwise_cons] at this
    exact this.2
  · exact fun f hf' => h.fon f (hsub f hf')
  · exact fun f hf' => h.fle f (hsub f hf')
  · have := h.chain
    rw [hf] at this
    exact this.2
  · exact fun f hf' => h.donef f (hsub f hf')
  · intro v hv hp y hy
    rw [hpath'] at hp
    rcases hfin v hp with rfl | h1
    · exact top_vis h hf he y hy
    · exact h.dones v hv h1 y hy
  · exact h.closed
  · exact h.down
  · exact h.complt
  · exact h.used
  · exact h.part
  · exact fun v hv => Nat.le_trans (lowUp_le S x fs v) (h.lowle v hv)
  · intro v hv
    show ∃ u, S.on u = true ∧ S.index u = lowUp S x fs v ∧ Conn (Ed G) v u
    unfold lowUp
    split
    · exact h.lowto v hv
    · rename_i p ep rest
      by_cases ev : v = p
      · subst ev
        rw [upd_same]
        by_cases hc : S.low v ≤ S.low x
        · rw [Nat.min_eq_left hc]; exact h.lowto v hv
        · rw [Nat.min_eq_right (by omega)]
          obtain ⟨u, h1, h2, h3⟩ := h.lowto x hxon
          have hch := h.chain
          rw [hf] at hch
          have hEd : Ed G v x := hch.1
          exact ⟨u, h1, h2, (Conn.one hEd).trans h3⟩
      · rw [upd_other _ _ _ _ ev]; exact h.lowto v hv
  · intro v hv hp
    rw [hpath'] at hp
    show lowUp S x fs v < S.index v
    rw [lowUp_other S x fs v hp]
    rcases hfin v hp with rfl | h1
    · exact hxlt
    · exact h.lowfin v hv h1
  · intro v hv hp f hf' hlt hmx
    rw [hpath'] at hp
    show lowUp S x fs f.1 ≤ lowUp S x fs v
    rw [lowUp_other S x fs v hp]
    -- the top of what is left
    have top : ∀ (_ : S.index x ≤ S.index v), lowUp S x fs f.1 ≤ S.low x := by
      intro hxv
      cases fs with
      | nil => cases hf'
      | cons g r =>
        obtain ⟨p, ep⟩ := g
        have hp1 : S.index p < S.index x := hmax (p, ep) (by simp)
        have h1 := hmx (p, ep) (by simp) (by show S.index p < S.index v; omega)
        have h2 : S.index f.1 ≤ S.index p := by
          rcases List.mem_cons.1 hf' with rfl | hf''
          · exact Nat.le_refl _
          · have := h.fsorted
            rw [hpath] at this
            simp only [List.map_cons, List.pairwise_cons] at this
            exact Nat.le_of_lt (this.2.1 f.1 (List.mem_map_of_mem hf''))
        have h3 : f.1 = p := h.inj f.1 p (h.onvis _ (h.fon f (hsub f hf'))) (by
          have h1' : S.index p ≤ S.index f.1 := h1
          omega)
        rw [h3]
        show upd S.low p (min (S.low p) (S.low x)) p ≤ S.low x
        rw [upd_same]
        exact Nat.min_le_right _ _
    rcases hfin v hp with rfl | h1
    · exact top (Nat.le_refl _)
    · by_cases hxv : S.index x < S.index v
      · have h2 := h.owner v hv h1 (x, e) (by rw [hf]; simp) hxv (fun f' h' _ => top_le h hf f' h')
        exact Nat.le_trans (top (Nat.le_of_lt hxv)) h2
      · have h2 := h.owner v hv h1 f (hsub f hf') hlt (fun f' h' hl' => by
          rw [hf] at h'
          rcases List.mem_cons.1 h' with rfl | h''
          · exact absurd hl' hxv
          · exact hmx f' h'' hl')
        exact Nat.le_trans (lowUp_le S x fs f.1) h2
  · exact fun f hf' i y hi hy ho => Nat.le_trans (lowUp_le S x fs f.1) (h.lowf f (hsub f hf') i y hi hy ho)
  · intro v hv hp y hy ho
    rw [hpath'] at hp
    refine Nat.le_trans (lowUp_le S x fs v) ?_
    rcases hfin v hp with rfl | h1
    · exact top_low h hf he y hy ho
    · exact h.lows v hv h1 y hy ho
  · exact fun f hf' => h.desc f (hsub f hf')

theorem split_at (x : Nat) (st : List Nat) (hx : x ∈ st) : st = st.takeWhile (fun y => y != x) ++ x :: behind x st := by
  have h1 : st = st.takeWhile (fun y => y != x) ++ st.dropWhile (fun y => y != x) := (List.takeWhile_append_dropWhile).symm
  cases hd : st.dropWhile (fun y => y != x) with
  | nil =>
    rw [hd, List.append_nil] at h1
    rw [h1] at hx
    have h2 : (st.takeWhile (fun y => y != x)).all (fun y => y != x) = true := List.all_takeWhile
    have h3 := List.all_eq_true.1 h2 x hx
    simp at h3
  | cons z r =>
    have hz : (z != x) = false := by
      have := List.head?_dropWhile_not (fun y => y != x) st
      rw [hd] at this
      simpa using this
    have hzx : z = x := by simpa using hz
    unfold behind
    rw [hd, List.tail_cons]
    rw [hd, hzx] at h1
    exact h1

/-- What the stack holds from the top to x are the nodes met not before x. -/
theorem mem_upTo {S : St} {n : Nat} {G : Nat → List (Option Nat)} (h : Inv n G S) {x : Nat} (hx : S.on x = true) (v : Nat) : v ∈ upTo x S.stack ↔ S.on v = true ∧ S.index x ≤ S.index v := by
  have hsp := split_at x S.stack ((h.memon x).2 hx)
  have hs := h.sorted
  rw [hsp, List.pairwise_append] at hs
  obtain ⟨h1, h2, h3⟩ := hs
  rw [List.pairwise_cons] at h2
  unfold upTo
  constructor
  · intro hv
    have hvs : v ∈ S.stack := by
      rw [hsp]
      simp only [List.mem_append, List.mem_singleton] at hv
      simp only [List.mem_append, List.mem_cons]
      rcases hv with hv | hv
      · exact .inl hv
      · exact .inr (.inl hv)
    refine ⟨(h.memon v).1 hvs, ?_⟩
    simp only [List.mem_append, List.mem_singleton] at hv
    rcases hv with hv | hv
    · exact Nat.le_of_lt (h3 v hv x (by simp))
    · rw [hv]; exact Nat.le_refl _
  · rintro ⟨hv, hle⟩
    have hvs := (h.memon v).2 hv
    rw [hsp] at hvs
    simp only [List.mem_append, List.mem_cons] at hvs
    simp only [List.mem_append, List.mem_singleton]
    rcases hvs with hv' | hv' | hv'
    · exact .inl hv'
    · exact .inr hv'
    · have := h2.1 v hv'
      omega

theorem mem_behind {S : St} {n : Nat} {G : Nat → List (Option Nat)} (h : Inv n G S) {x : Nat} (hx : S.on x = true) (v : Nat) : v ∈ behind x S.stack ↔ S.on v = true ∧ S.index v < S.index x := by
  have hsp := split_at x S.stack ((h.memon x).2 hx)
  have hs := h.sorted
  rw [hsp, List.pairwise_append] at hs
  obtain ⟨h1, h2, h3⟩ := hs
  rw [List.pairwise_cons] at h2
  constructor
  · intro hv
    refine ⟨(h.memon v).1 ?_, h2.1 v hv⟩
    rw [hsp]; simp [hv]
  · rintro ⟨hv, hlt⟩
    have hvs := (h.memon v).2 hv
    rw [hsp] at hvs
    simp only [List.mem_append, List.mem_cons] at hvs
    rcases hvs with hv' | hv' | hv'
    · have := h3 v hv' x (by simp)
      omega
    · rw [hv'] at hlt; exact absurd hlt (Nat.lt_irrefl _)
    · exact hv'

/-- The top node is through and is the root of its part: the part leaves the stack. -/
theorem Inv.popRoot {n : Nat} {G : Nat → List (Option Nat)} {S : St} (h : Inv n G S) (x e : Nat) (fs : List (Nat × Nat)) (hf : S.frames = (x, e) :: fs) (he : ¬ e < (G x).length) (hl : S.low x = S.index x) :
    Inv n G { S with frames := fs, low := lowUp S x fs, stack := behind x S.stack, on := setAll S.on (upTo x S.stack) false, comp := setAll S.comp (upTo x S.stack) S.comps, comps := S.comps + 1 } := by
  have hxon := top_on h hf
  have hmax := top_max h hf
  have hmem := mem_upTo h hxon
  have hbeh := mem_behind h hxon
  have hxv := h.onvis x hxon
  have hpath : path S = x :: fs.map Prod.fst := by simp [path, hf]
  have hsub : ∀ f ∈ fs, f ∈ S.frames := fun f hf' => by rw [hf]; exact List.mem_cons_of_mem _ hf'
  have hxS : (x, e) ∈ S.frames := by rw [hf]; simp
  have hlow : lowUp S x fs = S.low := by
    funext v
    unfold lowUp
    split
    · rfl
    · rename_i p ep rest
      by_cases ev : v = p
      · subst ev
        rw [upd_same]
        have h1 : S.index v < S.index x := hmax (v, ep) (by simp)
        have h2 := h.lowle v (h.fon (v, ep) (hsub (v, ep) (by simp)))
        exact Nat.min_eq_left (by omega)
      · rw [upd_other _ _ _ _ ev]
  have hfin : ∀ v, v ∉ fs.map Prod.fst → v = x ∨ v ∉ path S := by
    intro v hv
    by_cases ev : v = x
    · exact .inl ev
    · refine .inr ?_
      rw [hpath]
      intro hm
      rcases List.mem_cons.1 hm with h1 | h1
      · exact ev h1
      · exact hv h1
  have hCnp : ∀ v, S.on v = true → S.index x ≤ S.index v → v ≠ x → v ∉ path S := by
    intro v hv hle hne hp
    obtain ⟨e', he'⟩ := mem_path.1 hp
    have h1 := top_le h hf (v, e') he'
    have h2 : S.index v = S.index x := by
      have h1' : S.index v ≤ S.index x := h1
      omega
    exact hne (h.inj v x (h.onvis v hv) h2)
  have hClow : ∀ v, S.on v = true → S.index x ≤ S.index v → S.index x ≤ S.low v := by
    intro v hv hle
    by_cases ev : v = x
    · rw [ev, hl]; exact Nat.le_refl _
    · have hlt : S.index x < S.index v := by
        rcases Nat.lt_or_ge (S.index x) (S.index v) with h1 | h1
        · exact h1
        · exact absurd (h.inj v x (h.onvis v hv) (by omega)) ev
      have := h.owner v hv (hCnp v hv hle ev) (x, e) hxS hlt (fun f' h' _ => top_le h hf f' h')
      have h2 : S.low x ≤ S.low v := this
      omega
  have hback : ∀ k v, S.index v = k → S.on v = true → S.index x ≤ S.index v → Conn (Ed G) v x := by
    intro k
    induction k using Nat.strongRecOn with
    | ind k ih =>
      intro v hk hv hle
      by_cases ev : v = x
      · rw [ev]; exact Conn.refl _ _
      · obtain ⟨u, h1, h2, h3⟩ := h.lowto v hv
        have h4 := h.lowfin v hv (hCnp v hv hle ev)
        have h5 := hClow v hv hle
        exact h3.trans (ih (S.index u) (by omega) u rfl h1 (by omega))
  have hsucc : ∀ v, S.on v = true → S.index x ≤ S.index v → ∀ y, Ed G v y → S.index y ≠ 0 ∧ (S.on y = true → S.index x ≤ S.index y) := by
    intro v hv hle y hy
    by_cases ev : v = x
    · subst ev
      refine ⟨top_vis h hf he y hy, fun ho => ?_⟩
      have := top_low h hf he y hy ho
      omega
    · refine ⟨h.dones v (h.onvis v hv) (hCnp v hv hle ev) y hy, fun ho => ?_⟩
      have h1 := h.lows v hv (hCnp v hv hle ev) y hy ho
      have h2 := hClow v hv hle
      omega
  have honv : ∀ v, setAll S.on (upTo x S.stack) false v = true ↔ S.on v = true ∧ S.index v < S.index x := by
    intro v
    unfold setAll
    by_cases hm : v ∈ upTo x S.stack
    · rw [if_pos hm]
      have := (hmem v).1 hm
      constructor
      · intro hc; cases hc
      · rintro ⟨_, h2⟩; omega
    · rw [if_neg hm]
      constructor
      · intro hv
        refine ⟨hv, ?_⟩
        rcases Nat.lt_or_ge (S.index v) (S.index x) with h1 | h1
        · exact h1
        · exact absurd ((hmem v).2 ⟨hv, h1⟩) hm
      · rintro ⟨h1, _⟩; exact h1
  have honf : ∀ v, setAll S.on (upTo x S.stack) false v = false → S.on v = false ∨ (S.on v = true ∧ S.index x ≤ S.index v) := by
    intro v hv
    cases ho : S.on v with
    | false => exact .inl rfl
    | true =>
      refine .inr ⟨rfl, ?_⟩
      rcases Nat.lt_or_ge (S.index v) (S.index x) with h1 | h1
      · have := (honv v).2 ⟨ho, h1⟩
        rw [hv] at this; cases this
      · exact h1
  have hcin : ∀ v, S.on v = true → S.index x ≤ S.index v → setAll S.comp (upTo x S.stack) S.comps v = S.comps := by
    intro v hv hle
    unfold setAll
    rw [if_pos ((hmem v).2 ⟨hv, hle⟩)]
  have hcout : ∀ v, S.on v = false → setAll S.comp (upTo x S.stack) S.comps v = S.comp v := by
    intro v hv
    unfold setAll
    rw [if_neg (fun hm => by have := ((hmem v).1 hm).1; rw [hv] at this; cases this)]
  have hnp : ∀ v, S.index v ≠ 0 → S.on v = false → v ∉ path S := by
    intro v hv ho hp
    obtain ⟨e', he'⟩ := mem_path.1 hp
    have := h.fon _ he'
    rw [ho] at this; cases this
  rw [hlow]
  constructor
  · exact h.idxle
  · exact h.inj
  · exact h.vislt
  · intro v
    show v ∈ behind x S.stack ↔ setAll S.on (upTo x S.stack) false v = true
    rw [hbeh v, honv v]
  · intro v hv
    exact h.onvis v ((honv v).1 hv).1
  · have hsp := split_at x S.stack ((h.memon x).2 hxon)
    have hs := h.sorted
    rw [hsp, List.pairwise_append] at hs
    have := hs.2.1
    rw [List.pairwise_cons] at this
    exact this.2
  · have := h.fsorted
    rw [hpath, List.pairwise_cons] at this
    exact this.2
  · intro f hf'
    exact (honv f.1).2 ⟨h.fon f (hsub f hf'), hmax f hf'⟩
  · exact fun f hf' => h.fle f (hsub f hf')
  · have := h.chain
    rw [hf] at this
    exact this.2
  · exact fun f hf' => h.donef f (hsub f hf')
  · intro v hv hp y hy
    rcases hfin v hp with rfl | h1
    · exact top_vis h hf he y hy
    · exact h.dones v hv h1 y hy
  · intro v hv ho y hy
    show setAll S.on (upTo x S.stack) false y = false
    cases hy' : setAll S.on (upTo x S.stack) false y with
    | false => rfl
    | true =>
      obtain ⟨h1, h2⟩ := (honv y).1 hy'
      rcases honf v ho with h3 | ⟨h3, h4⟩
      · have := h.closed v hv h3 y hy
        rw [h1] at this; cases this
      · have := (hsucc v h3 h4 y hy).2 h1
        omega
  · intro v hv ho y hy
    show setAll S.comp (upTo x S.stack) S.comps y ≤ setAll S.comp (upTo x S.stack) S.comps v
    rcases honf v ho with h3 | ⟨h3, h4⟩
    · have h5 := h.closed v hv h3 y hy
      rw [hcout v h3, hcout y h5]
      exact h.down v hv h3 y hy
    · rw [hcin v h3 h4]
      obtain ⟨h6, h7⟩ := hsucc v h3 h4 y hy
      cases hoy : S.on y with
      | true => rw [hcin y hoy (h7 hoy)]; exact Nat.le_refl _
      | false =>
        rw [hcout y hoy]
        exact Nat.le_of_lt (h.complt y h6 hoy)
  · intro v hv ho
    show setAll S.comp (upTo x S.stack) S.comps v < S.comps + 1
    rcases honf v ho with h3 | ⟨h3, h4⟩
    · rw [hcout v h3]
      have := h.complt v hv h3
      omega
    · rw [hcin v h3 h4]; omega
  · intro c hc
    have hc' : c < S.comps + 1 := hc
    by_cases e1 : c = S.comps
    · refine ⟨x, hxv, ?_, ?_⟩
      · show setAll S.on (upTo x S.stack) false x = false
        unfold setAll
        rw [if_pos ((hmem x).2 ⟨hxon, Nat.le_refl _⟩)]
      · show setAll S.comp (upTo x S.stack) S.comps x = c
        rw [hcin x hxon (Nat.le_refl _), e1]
    · obtain ⟨v, h1, h2, h3⟩ := h.used c (by omega)
      refine ⟨v, h1, ?_, ?_⟩
      · show setAll S.on (upTo x S.stack) false v = false
        unfold setAll
        split
        · rfl
        · exact h2
      · show setAll S.comp (upTo x S.stack) S.comps v = c
        rw [hcout v h2, h3]
  · intro u v hu hou hv hov huv
    have huv' : setAll S.comp (upTo x S.stack) S.comps u = setAll S.comp (upTo x S.stack) S.comps v := huv
    rcases honf u hou with h3 | ⟨h3, h4⟩
    · rcases honf v hov with h5 | ⟨h5, h6⟩
      · rw [hcout u h3, hcout v h5] at huv'
        exact h.part u v hu h3 hv h5 huv'
      · rw [hcout u h3, hcin v h5 h6] at huv'
        have := h.complt u hu h3
        omega
    · rcases honf v hov with h5 | ⟨h5, h6⟩
      · rw [hcin u h3 h4, hcout v h5] at huv'
        have := h.complt v hv h5
        omega
      · exact (hback (S.index u) u rfl h3 h4).trans (h.desc (x, e) hxS v h5 h6)
  · intro v hv
    exact h.lowle v ((honv v).1 hv).1
  · intro v hv
    obtain ⟨h1, h2⟩ := (honv v).1 hv
    obtain ⟨u, h3, h4, h5⟩ := h.lowto v h1
    have := h.lowle v h1
    exact ⟨u, (honv u).2 ⟨h3, by omega⟩, h4, h5⟩
  · intro v hv hp
    obtain ⟨h1, h2⟩ := (honv v).1 hv
    rcases hfin v hp with rfl | h3
    · exact absurd h2 (Nat.lt_irrefl _)
    · exact h.lowfin v h1 h3
  · intro v hv hp f hf' hlt hmx
    obtain ⟨h1, h2⟩ := (honv v).1 hv
    rcases hfin v hp with rfl | h3
    · exact absurd h2 (Nat.lt_irrefl _)
    · refine h.owner v h1 h3 f (hsub f hf') hlt (fun f' h' hl' => ?_)
      rw [hf] at h'
      rcases List.mem_cons.1 h' with rfl | h''
      · have : S.index x < S.index v := hl'
        omega
      · exact hmx f' h'' hl'
  · intro f hf' i y hi hy ho
    exact h.lowf f (hsub f hf') i y hi hy ((honv y).1 ho).1
  · intro v hv hp y hy ho
    obtain ⟨h1, h2⟩ := (honv v).1 hv
    rcases hfin v hp with rfl | h3
    · exact absurd h2 (Nat.lt_irrefl _)
    · exact h.lows v h1 h3 y hy ((honv y).1 ho).1
  · intro f hf' v hv hlev
    exact h.desc f (hsub f hf') v ((honv v).1 hv).1 hlev

theorem Inv.step {n : Nat} {G : Nat → List (Option Nat)} (hG : ∀ x y, x < n → Ed G x y → y < n) {S S' : St} (h : Inv n G S) (hs : Step n G S S') : Inv n G S' := by
  rcases hs with ⟨x, hx, hf, hi, _, rfl⟩ | ⟨x, e, fs, hf, ⟨he, rfl⟩ | ⟨he, rfl⟩⟩
  · exact h.root x hx hf hi
  · exact h.edge hG x e fs hf he
  · unfold popf
    split
    · rename_i hl
      exact h.popRoot x e fs hf he hl
    · rename_i hl
      exact h.popStay x e fs hf he hl

theorem Rc.inv {n : Nat} {G : Nat → List (Option Nat)} (hG : ∀ x y, x < n → Ed G x y → y < n) {S : St} (h : Rc n G S) : Inv n G S :=
  h (Inv n G) (Inv.start n G) (fun S S' hi hs => hi.step hG hs)

/-- Between two roots the stack is empty. -/
theorem Inv.empty {n : Nat} {G : Nat → List (Option Nat)} {S : St} (h : Inv n G S) (hf : S.frames = []) (v : Nat) : S.on v = false := by
  have key : ∀ k v, S.index v = k → S.on v = true → False := by
    intro k
    induction k using Nat.strongRecOn with
    | ind k ih =>
      intro v hk hv
      obtain ⟨u, h1, h2, _⟩ := h.lowto v hv
      have h3 := h.lowfin v hv (by simp [path, hf])
      exact ih (S.index u) (by omega) u rfl h1
  cases ho : S.on v with
  | false => rfl
  | true => exact (key _ v rfl ho).elim

/-- The search is through: what the numbers are. -/
structure Fin (n : Nat) (G : Nat → List (Option Nat)) (c : Nat → Nat) (k : Nat) : Prop where
  lt : ∀ v, v < n → c v < k
  used : ∀ j, j < k → ∃ v, v < n ∧ c v = j
  down : ∀ v y, v < n → Ed G v y → c y ≤ c v
  conn : ∀ u v, u < n → v < n → c u = c v → Conn (Ed G) u v

theorem Inv.fin {n : Nat} {G : Nat → List (Option Nat)} {S : St} (h : Inv n G S) (hf : S.frames = []) (hall : ∀ v, v < n → S.index v ≠ 0) : Fin n G S.comp S.comps := by
  have he := h.empty hf
  refine ⟨fun v hv => h.complt v (hall v hv) (he v), fun j hj => ?_, fun v y hv hy => h.down v (hall v hv) (he v) y hy, fun u v hu hv huv => h.part u v (hall u hu) (he u) (hall v hv) (he v) huv⟩
  obtain ⟨v, h1, _, h3⟩ := h.used j hj
  exact ⟨v, h.vislt v h1, h3⟩

end Go.Proofs.Qxb6602594a.Tj

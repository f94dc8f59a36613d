import Derived.Test.Qxb6602594aTjInv
namespace Go.Proofs.Qxb6602594a.Tj
set_option linter.unusedVariables false
set_option linter.unusedSimpArgs false

/-- An edge of the top node is followed to no new node; the top's low number may fall. -/
theorem Inv.bump {n : Nat} {G : Nat → List (Option Nat)} {S : St} (h : Inv n G S) (x e : Nat) (fs : List (Nat × Nat)) (hf : S.frames = (x, e) :: fs) (he : e < (G x).length) (m : Nat)
    (hm : m ≤ S.low x) (hm2 : m = S.low x ∨ ∃ y, Ed G x y ∧ S.on y = true ∧ m = S.index y)
    (ht : ∀ y, (G x)[e]? = some (some y) → S.index y ≠ 0 ∧ (S.on y = true → m ≤ S.index y)) :
    Inv n G { S with frames := (x, e + 1) :: fs, low := upd S.low x m } := by
  have hpath : path { S with frames := (x, e + 1) :: fs, low := upd S.low x m } = path S := by simp [path, hf]
  have hxon : S.on x = true := h.fon (x, e) (by rw [hf]; simp)
  have hle : ∀ v, upd S.low x m v ≤ S.low v := by
    intro v
    by_cases e1 : v = x
    · rw [e1, upd_same]; exact hm
    · rw [upd_other _ _ _ _ e1]; exact Nat.le_refl _
  have hold : ∀ f ∈ (x, e + 1) :: fs, ∃ e0, (f.1, e0) ∈ S.frames ∧ (f.2 = e0 ∨ (f.1 = x ∧ e0 = e ∧ f.2 = e + 1)) := by
    intro f hf'
    rcases List.mem_cons.1 hf' with rfl | hf'
    · exact ⟨e, by rw [hf]; simp, .inr ⟨rfl, rfl, rfl⟩⟩
    · exact ⟨f.2, by rw [hf]; exact List.mem_cons_of_mem _ hf', .inl rfl⟩
  have hnew : ∀ f ∈ S.frames, ∃ f' ∈ (x, e + 1) :: fs, f'.1 = f.1 := by
    intro f hf'
    rw [hf] at hf'
    rcases List.mem_cons.1 hf' with rfl | hf'
    · exact ⟨(x, e + 1), by simp, rfl⟩
    · exact ⟨f, List.mem_cons_of_mem _ hf', rfl⟩
  have hxp : x ∈ path S := by simp [path, hf]
  constructor
  · exact h.idxle
  · exact h.inj
  · exact h.vislt
  · exact h.memon
  · exact h.onvis
  · exact h.sorted
  · rw [hpath]; exact h.fsorted
  · intro f hf'
    obtain ⟨e0, h0, _⟩ := hold f hf'
    exact h.fon (f.1, e0) h0
  · intro f hf'
    obtain ⟨e0, h0, h1⟩ := hold f hf'
    have := h.fle (f.1, e0) h0
    rcases h1 with h1 | ⟨h1, h2, h3⟩
    · rw [h1]; exact this
    · rw [h1, h3]; omega
  · have := h.chain
    rw [hf] at this
    exact this
  · intro f hf' i y hi hy
    obtain ⟨e0, h0, h1⟩ := hold f hf'
    rcases h1 with h1 | ⟨h1, h2, h3⟩
    · exact h.donef (f.1, e0) h0 i y (by rw [← h1]; exact hi) hy
    · by_cases hie : i < e
      · exact h.donef (f.1, e0) h0 i y (by rw [h2]; exact hie) hy
      · have : i = e := by omega
        rw [this, h1] at hy
        exact (ht y hy).1
  · intro v hv hp
    rw [hpath] at hp
    exact h.dones v hv hp
  · exact h.closed
  · exact h.down
  · exact h.complt
  · exact h.used
  · exact h.part
  · intro v hv
    exact Nat.le_trans (hle v) (h.lowle v hv)
  · intro v hv
    show ∃ u, S.on u = true ∧ S.index u = upd S.low x m v ∧ Conn (Ed G) v u
    by_cases e1 : v = x
    · rw [e1, upd_same]
      rcases hm2 with h2 | ⟨y, h1, h2, h3⟩
      · rw [h2]; exact h.lowto x hxon
      · exact ⟨y, h2, h3.symm, Conn.one h1⟩
    · rw [upd_other _ _ _ _ e1]; exact h.lowto v hv
  · intro v hv hp
    rw [hpath] at hp
    exact Nat.lt_of_le_of_lt (hle v) (h.lowfin v hv hp)
  · intro v hv hp f hf' hlt hmax
    rw [hpath] at hp
    have hvx : v ≠ x := fun e1 => hp (by rw [e1]; exact hxp)
    obtain ⟨e0, h0, _⟩ := hold f hf'
    have := h.owner v hv hp (f.1, e0) h0 hlt (fun f' h' hl => by
      obtain ⟨f'', h1, h2⟩ := hnew f' h'
      have := hmax f'' h1 (by rw [h2]; exact hl)
      rw [h2] at this; exact this)
    show upd S.low x m f.1 ≤ upd S.low x m v
    rw [upd_other S.low x m v hvx]
    exact Nat.le_trans (hle f.1) this
  · intro f hf' i y hi hy hoy
    obtain ⟨e0, h0, h1⟩ := hold f hf'
    show upd S.low x m f.1 ≤ S.index y
    rcases h1 with h1 | ⟨h1, h2, h3⟩
    · exact Nat.le_trans (hle f.1) (h.lowf (f.1, e0) h0 i y (by rw [← h1]; exact hi) hy hoy)
    · by_cases hie : i < e
      · exact Nat.le_trans (hle f.1) (h.lowf (f.1, e0) h0 i y (by rw [h2]; exact hie) hy hoy)
      · have : i = e := by omega
        rw [this, h1] at hy
        rw [h1, upd_same]
        exact (ht y hy).2 hoy
  · intro v hv hp y hy hoy
    rw [hpath] at hp
    exact Nat.le_trans (hle v) (h.lows v hv hp y hy hoy)
  · intro f hf' v hv hlev
    obtain ⟨e0, h0, _⟩ := hold f hf'
    exact h.desc (f.1, e0) h0 v hv hlev

theorem upd_self (f : Nat → Nat) (x : Nat) : upd f x (f x) = f := by
  funext j
  by_cases e : j = x
  · rw [e, upd_same]
  · rw [upd_other _ _ _ _ e]

theorem Inv.edge {n : Nat} {G : Nat → List (Option Nat)} {S : St} (hG : ∀ x y, x < n → Ed G x y → y < n) (h : Inv n G S) (x e : Nat) (fs : List (Nat × Nat)) (hf : S.frames = (x, e) :: fs) (he : e < (G x).length) :
    Inv n G (Tj.edge G S x e fs) := by
  have hxon : S.on x = true := h.fon (x, e) (by rw [hf]; simp)
  have hxn : x < n := h.vislt x (h.onvis x hxon)
  have hge : (G x)[e]? = some ((G x)[e]) := List.getElem?_eq_getElem he
  have same : ∀ (_ : ∀ y, (G x)[e]? = some (some y) → S.index y ≠ 0 ∧ (S.on y = true → S.low x ≤ S.index y)), Inv n G { S with frames := (x, e + 1) :: fs } := by
    intro ht
    have := h.bump x e fs hf he (S.low x) (Nat.le_refl _) (.inl rfl) ht
    rw [upd_self] at this
    exact this
  unfold Tj.edge
  rw [hge]
  simp only [Option.getD_some]
  cases hz : (G x)[e] with
  | none =>
    refine same ?_
    intro y hy
    rw [hge, hz] at hy
    simp at hy
  | some y =>
    have hEd : Ed G x y := by
      unfold Ed
      rw [← hz]
      exact List.getElem_mem he
    simp only
    by_cases hi : S.index y = 0
    · rw [if_pos hi]
      refine h.push ((x, e + 1) :: fs) y (hG x y hxn hEd) hi (by simp [path, hf]) ?_ ?_ hEd ?_
      · intro f hf'
        rcases List.mem_cons.1 hf' with rfl | hf'
        · exact he
        · exact h.fle f (by rw [hf]; exact List.mem_cons_of_mem _ hf')
      · have := h.chain
        rw [hf] at this
        exact this
      · intro f hf' i z hi' hz'
        rcases List.mem_cons.1 hf' with rfl | hf'
        · by_cases hie : i < e
          · exact .inr ⟨e, by rw [hf]; simp, hie⟩
          · have : i = e := by simp at hi'; omega
            subst this
            rw [hge, hz] at hz'
            simp at hz'
            exact .inl hz'.symm
        · exact .inr ⟨f.2, by rw [hf]; exact List.mem_cons_of_mem _ hf', hi'⟩
    · rw [if_neg hi]
      by_cases ho : S.on y = true
      · rw [if_pos ho]
        refine h.bump x e fs hf he _ (Nat.min_le_left _ _) ?_ ?_
        · by_cases hc : S.low x ≤ S.index y
          · exact .inl (Nat.min_eq_left hc)
          · exact .inr ⟨y, hEd, ho, Nat.min_eq_right (by omega)⟩
        · intro y' hy'
          rw [hge, hz] at hy'
          simp at hy'
          subst hy'
          exact ⟨hi, fun _ => Nat.min_le_right _ _⟩
      · rw [if_neg ho]
        refine same ?_
        intro y' hy'
        rw [hge, hz] at hy'
        simp at hy'
        subst hy'
        exact ⟨hi, fun hh => absurd hh ho⟩

theorem Inv.root {n : Nat} {G : Nat → List (Option Nat)} {S : St} (h : Inv n G S) (x : Nat) (hx : x < n) (hf : S.frames = []) (hi : S.index x = 0) : Inv n G (Tj.push S x) := by
  have := h.push [] x hx hi (by simp [path, hf]) (by simp) trivial trivial (by simp)
  have e : ({ S with frames := [] } : St) = S := by cases S; simp_all
  rw [e] at this
  exact this

end Go.Proofs.Qxb6602594a.Tj

import Derived.Test.Qxb6602594aTjNone
namespace Go.Proofs.Qxb6602594a.Tj
set_option linter.unusedVariables false
set_option linter.unusedSimpArgs false

def rsum (f : Nat → Nat) : Nat → Nat
  | 0 => 0
  | n + 1 => rsum f n + f n

theorem rsum_congr {f g : Nat → Nat} : ∀ n, (∀ x, x < n → f x = g x) → rsum f n = rsum g n
  | 0, _ => rfl
  | n + 1, h => by
    simp only [rsum]
    rw [rsum_congr n (fun x hx => h x (by omega)), h n (by omega)]

/-- One term goes. -/
theorem rsum_drop {f g : Nat → Nat} {y : Nat} : ∀ n, y < n → (∀ x, x ≠ y → g x = f x) → rsum g n + f y = rsum f n + g y
  | 0, hy, _ => absurd hy (by omega)
  | n + 1, hy, h => by
    simp only [rsum]
    by_cases e : y = n
    · subst e
      rw [rsum_congr (f := g) (g := f) y (fun x hx => h x (by omega))]
      omega
    · have := rsum_drop n (by omega) h
      rw [h n (fun e' => e e'.symm)]
      omega

/-- What is still to come: of each node not yet met; of each node under way. -/
def unmet (S : St) (f : Nat → Nat) : Nat → Nat := fun x => if S.index x = 0 then f x else 0
def pot (n : Nat) (G : Nat → List (Option Nat)) (S : St) : Nat :=
  rsum (unmet S (fun x => (G x).length + 2)) n + (S.frames.map (fun f => (G f.1).length - f.2 + 1)).sum

theorem push_unmet (S : St) (F : List (Nat × Nat)) (y n : Nat) (f : Nat → Nat) (hy : y < n) (hi : S.index y = 0) :
    rsum (unmet (push { S with frames := F } y) f) n + f y = rsum (unmet S f) n := by
  have := rsum_drop (f := unmet S f) (g := unmet (push { S with frames := F } y) f) (y := y) n hy (by
    intro x hx
    simp [unmet, push, upd, hx])
  simp only [unmet, push, upd, hi, if_true] at this
  simpa [unmet, push, upd] using this

theorem pot_edge {n : Nat} {G : Nat → List (Option Nat)} (hG : ∀ x y, x < n → Ed G x y → y < n) {S : St} (x e : Nat) (fs : List (Nat × Nat)) (hx : x < n) (hf : S.frames = (x, e) :: fs) (he : e < (G x).length) :
    pot n G (edge G S x e fs) < pot n G S := by
  have base : ∀ S' : St, S'.index = S.index → S'.frames = (x, e + 1) :: fs → pot n G S' < pot n G S := by
    intro S' h1 h2
    unfold pot
    rw [h2, hf]
    simp only [List.map_cons, List.sum_cons]
    have : unmet S' (fun x => (G x).length + 2) = unmet S (fun x => (G x).length + 2) := by funext v; simp [unmet, h1]
    rw [this]
    omega
  have hge : (G x)[e]? = some ((G x)[e]) := List.getElem?_eq_getElem he
  unfold edge
  rw [hge]
  simp only [Option.getD_some]
  cases hz : (G x)[e] with
  | none => exact base _ rfl rfl
  | some y =>
    have hEd : Ed G x y := by unfold Ed; rw [← hz]; exact List.getElem_mem he
    simp only
    by_cases hi : S.index y = 0
    · rw [if_pos hi]
      have := push_unmet S ((x, e + 1) :: fs) y n (fun x => (G x).length + 2) (hG x y hx hEd) hi
      unfold pot
      have hfr : (push { S with frames := (x, e + 1) :: fs } y).frames = (y, 0) :: (x, e + 1) :: fs := rfl
      rw [hfr, hf]
      simp only [List.map_cons, List.sum_cons]
      omega
    · rw [if_neg hi]
      split
      · exact base _ rfl rfl
      · exact base _ rfl rfl

theorem pot_pop {n : Nat} {G : Nat → List (Option Nat)} {S : St} (x e : Nat) (fs : List (Nat × Nat)) (hf : S.frames = (x, e) :: fs) : pot n G (popf S x fs) < pot n G S := by
  have h1 : (popf S x fs).index = S.index := by unfold popf; split <;> rfl
  have h2 : (popf S x fs).frames = fs := by unfold popf; split <;> rfl
  unfold pot
  rw [h2, hf]
  have : unmet (popf S x fs) (fun x => (G x).length + 2) = unmet S (fun x => (G x).length + 2) := by funext v; simp [unmet, h1]
  rw [this]
  simp only [List.map_cons, List.sum_cons]
  omega

structure Num (n : Nat) (S : St) : Prop where
  next : S.next + rsum (unmet S (fun _ => 1)) n = n
  comps : S.comps + S.stack.length ≤ S.next
  frames : S.frames.length ≤ S.next

theorem rsum_one (n : Nat) : rsum (fun _ => 1) n = n := by
  induction n with
  | zero => rfl
  | succ n ih => simp [rsum, ih]

theorem Num.start (n : Nat) : Num n s0 := by
  refine ⟨?_, by simp [s0], by simp [s0]⟩
  have : unmet s0 (fun _ => 1) = fun _ => 1 := by funext v; simp [unmet, s0]
  rw [this, rsum_one]; simp [s0]

theorem Num.push {n : Nat} {S : St} (h : Num n S) (F : List (Nat × Nat)) (hF : F.length = S.frames.length) (y : Nat) (hy : y < n) (hi : S.index y = 0) : Num n (Tj.push { S with frames := F } y) := by
  have h1 := push_unmet S F y n (fun _ => 1) hy hi
  have h2 := h.next
  have h3 := h.comps
  have h4 := h.frames
  refine ⟨?_, ?_, ?_⟩
  · show S.next + 1 + _ = n
    omega
  · show S.comps + (S.stack.length + 1) ≤ S.next + 1
    omega
  · show F.length + 1 ≤ S.next + 1
    omega

theorem Num.same {n : Nat} {S S' : St} (h : Num n S) (h1 : S'.index = S.index) (h2 : S'.next = S.next) (h3 : S'.comps + S'.stack.length ≤ S.comps + S.stack.length) (h4 : S'.frames.length ≤ S.frames.length) : Num n S' := by
  have e : unmet S' (fun _ => 1) = unmet S (fun _ => 1) := by funext v; simp [unmet, h1]
  have a := h.next
  have b := h.comps
  have c := h.frames
  exact ⟨by rw [e, h2]; exact a, by rw [h2]; omega, by rw [h2]; omega⟩

theorem length_behind (x : Nat) (st : List Nat) (hx : x ∈ st) : (behind x st).length + 1 ≤ st.length := by
  have h := congrArg List.length (split_at x st hx)
  simp only [List.length_append, List.length_cons] at h
  omega

theorem Num.step {n : Nat} {G : Nat → List (Option Nat)} (hG : ∀ x y, x < n → Ed G x y → y < n) {S S' : St} (hi : Inv n G S) (h : Num n S) (hs : Step n G S S') : Num n S' := by
  rcases hs with ⟨x, hx, hf, hi', _, rfl⟩ | ⟨x, e, fs, hf, ⟨he, rfl⟩ | ⟨he, rfl⟩⟩
  · have := h.push S.frames rfl x hx hi'
    exact this
  · have hxon := top_on hi hf
    have hxn : x < n := hi.vislt x (hi.onvis x hxon)
    have hfl : ((x, e + 1) :: fs).length = S.frames.length := by rw [hf]; rfl
    have hge : (G x)[e]? = some ((G x)[e]) := List.getElem?_eq_getElem he
    unfold edge
    rw [hge]
    simp only [Option.getD_some]
    cases hz : (G x)[e] with
    | none => exact h.same rfl rfl (Nat.le_refl _) (Nat.le_of_eq hfl)
    | some y =>
      have hEd : Ed G x y := by unfold Ed; rw [← hz]; exact List.getElem_mem he
      simp only
      by_cases hy : S.index y = 0
      · rw [if_pos hy]
        exact h.push _ hfl y (hG x y hxn hEd) hy
      · rw [if_neg hy]
        split
        · exact h.same rfl rfl (Nat.le_refl _) (Nat.le_of_eq hfl)
        · exact h.same rfl rfl (Nat.le_refl _) (Nat.le_of_eq hfl)
  · have hxon := top_on hi hf
    unfold popf
    split
    · refine h.same rfl rfl ?_ (by rw [hf]; simp)
      have := length_behind x S.stack ((hi.memon x).2 hxon)
      show S.comps + 1 + (behind x S.stack).length ≤ S.comps + S.stack.length
      omega
    · exact h.same rfl rfl (Nat.le_refl _) (by rw [hf]; simp)

theorem Rc.num {n : Nat} {G : Nat → List (Option Nat)} (hG : ∀ x y, x < n → Ed G x y → y < n) {S : St} (h : Rc n G S) : Num n S :=
  (h (fun S => Inv n G S ∧ Num n S) ⟨Inv.start n G, Num.start n⟩ (fun S S' hi hs => ⟨hi.1.step hG hs, hi.2.step hG hi.1 hs⟩)).2

theorem Num.nextle {n : Nat} {S : St} (h : Num n S) : S.next ≤ n := by have := h.next; omega
theorem Num.nextlt {n : Nat} {S : St} (h : Num n S) (y : Nat) (hy : y < n) (hi : S.index y = 0) : S.next < n := by
  have h1 := push_unmet S S.frames y n (fun _ => 1) hy hi
  have h2 := h.next
  omega

end Go.Proofs.Qxb6602594a.Tj

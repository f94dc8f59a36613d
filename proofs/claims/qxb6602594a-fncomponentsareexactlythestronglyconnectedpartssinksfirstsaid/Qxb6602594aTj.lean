import Derived.Test.Qxb6602594aRows
/-! The plain part of the laws on components: no Go in sight. The search as a machine on plain states; what every reachable state satisfies; what the numbers are at its end. -/
namespace Go.Proofs.Qxb6602594a.Tj
set_option linter.unusedVariables false
set_option linter.unusedSimpArgs false

structure St where
  comp : Nat → Nat
  index : Nat → Nat
  low : Nat → Nat
  on : Nat → Bool
  stack : List Nat
  next : Nat
  comps : Nat
  frames : List (Nat × Nat)

def upd {α : Type} (f : Nat → α) (i : Nat) (v : α) : Nat → α := fun j => if j = i then v else f j
theorem upd_same {α : Type} (f : Nat → α) (i : Nat) (v : α) : upd f i v i = v := by simp [upd]
theorem upd_other {α : Type} (f : Nat → α) (i : Nat) (v : α) (j : Nat) (h : j ≠ i) : upd f i v j = f j := by simp [upd, h]
def setAll {α : Type} (f : Nat → α) (l : List Nat) (v : α) : Nat → α := fun j => if j ∈ l then v else f j

def s0 : St := { comp := fun _ => 0, index := fun _ => 0, low := fun _ => 0, on := fun _ => false, stack := [], next := 0, comps := 0, frames := [] }

/-- A node is met for the first time. -/
def push (S : St) (y : Nat) : St :=
  { S with next := S.next + 1, index := upd S.index y (S.next + 1), low := upd S.low y (S.next + 1), stack := y :: S.stack, on := upd S.on y true, frames := (y, 0) :: S.frames }

/-- An edge of the node x under way is followed. -/
def edge (G : Nat → List (Option Nat)) (S : St) (x e : Nat) (fs : List (Nat × Nat)) : St :=
  match (G x)[e]?.getD none with
  | none => { S with frames := (x, e + 1) :: fs }
  | some y =>
    if S.index y = 0 then push { S with frames := (x, e + 1) :: fs } y
    else if S.on y = true then { S with frames := (x, e + 1) :: fs, low := upd S.low x (min (S.low x) (S.index y)) }
    else { S with frames := (x, e + 1) :: fs }

/-- The low number goes up to the parent. -/
def lowUp (S : St) (x : Nat) (fs : List (Nat × Nat)) : Nat → Nat :=
  match fs with
  | [] => S.low
  | (p, _) :: _ => upd S.low p (min (S.low p) (S.low x))

def upTo (x : Nat) (st : List Nat) : List Nat := st.takeWhile (fun y => y != x) ++ [x]
def behind (x : Nat) (st : List Nat) : List Nat := (st.dropWhile (fun y => y != x)).tail

/-- The node x is through. -/
def popf (S : St) (x : Nat) (fs : List (Nat × Nat)) : St :=
  if S.low x = S.index x then
    { S with frames := fs, low := lowUp S x fs, stack := behind x S.stack, on := setAll S.on (upTo x S.stack) false, comp := setAll S.comp (upTo x S.stack) S.comps, comps := S.comps + 1 }
  else { S with frames := fs, low := lowUp S x fs }

def Step (n : Nat) (G : Nat → List (Option Nat)) (S S' : St) : Prop :=
  (∃ x, x < n ∧ S.frames = [] ∧ S.index x = 0 ∧ (∀ z, z < x → S.index z ≠ 0) ∧ S' = push S x) ∨
  (∃ x e fs, S.frames = (x, e) :: fs ∧ ((e < (G x).length ∧ S' = edge G S x e fs) ∨ (¬ e < (G x).length ∧ S' = popf S x fs)))

/-- The states that the search can come to. -/
def Rc (n : Nat) (G : Nat → List (Option Nat)) (S : St) : Prop := ∀ I : St → Prop, I s0 → (∀ S S', I S → Step n G S S' → I S') → I S
theorem Rc.start (n : Nat) (G : Nat → List (Option Nat)) : Rc n G s0 := fun I h0 _ => h0
theorem Rc.step {n : Nat} {G : Nat → List (Option Nat)} {S S' : St} (h : Rc n G S) (hs : Step n G S S') : Rc n G S' := fun I h0 h1 => h1 S S' (h I h0 h1) hs

/-! ### Reaching -/
def Conn (E : Nat → Nat → Prop) (x y : Nat) : Prop := ∀ P : Nat → Prop, P x → (∀ a b, P a → E a b → P b) → P y
theorem Conn.refl (E : Nat → Nat → Prop) (x : Nat) : Conn E x x := fun _ h _ => h
theorem Conn.trans {E : Nat → Nat → Prop} {x y z : Nat} (h : Conn E x y) (k : Conn E y z) : Conn E x z := fun P hx hs => k P (h P hx hs) hs
theorem Conn.one {E : Nat → Nat → Prop} {x y : Nat} (h : E x y) : Conn E x y := fun _ hx hs => hs x y hx h
theorem Conn.mono {E F : Nat → Nat → Prop} (hEF : ∀ a b, E a b → F a b) {x y : Nat} (h : Conn E x y) : Conn F x y := fun P hx hs => h P hx (fun a b ha hab => hs a b ha (hEF a b hab))
def Ed (G : Nat → List (Option Nat)) (x y : Nat) : Prop := some y ∈ G x

/-- Where numbers never grow along an edge, they do not grow along a road. -/
theorem Conn.le {E : Nat → Nat → Prop} (c : Nat → Nat) (hc : ∀ a b, E a b → c b ≤ c a) {x y : Nat} (h : Conn E x y) : c y ≤ c x :=
  h (fun v => c v ≤ c x) (Nat.le_refl _) (fun a b ha hab => Nat.le_trans (hc a b hab) ha)

/-- Two nodes of one number that reach each other do so inside their part. -/
theorem Conn.inside {E : Nat → Nat → Prop} (c : Nat → Nat) (hc : ∀ a b, E a b → c b ≤ c a) {x y : Nat} (h : Conn E x y) (k : Conn E y x) : Conn (fun a b => E a b ∧ c a = c b) x y := by
  have hxy := Conn.le c hc h
  have hyx := Conn.le c hc k
  have := h (fun v => (Conn (fun a b => E a b ∧ c a = c b) x v ∧ c v = c x) ∨ c v < c x) (.inl ⟨Conn.refl _ _, rfl⟩) (by
    intro a b ha hab
    have := hc a b hab
    rcases ha with ⟨h1, h2⟩ | h1
    · by_cases he : c b = c a
      · exact .inl ⟨h1.trans (Conn.one ⟨hab, he.symm⟩), by omega⟩
      · exact .inr (by omega)
    · exact .inr (by omega))
  rcases this with ⟨h1, _⟩ | h1
  · exact h1
  · omega

end Go.Proofs.Qxb6602594a.Tj

import Derived.Test.Qxb6602594aTj
namespace Go.Proofs.Qxb6602594a.Tj
set_option linter.unusedVariables false
set_option linter.unusedSimpArgs false

/-- Each node under way was come to from the one beneath it. -/
def HeadEd (G : Nat → List (Option Nat)) (y : Nat) : List (Nat × Nat) → Prop
  | [] => True
  | g :: _ => Ed G g.1 y
def ChainOk (G : Nat → List (Option Nat)) : List (Nat × Nat) → Prop
  | [] => True
  | f :: r => HeadEd G f.1 r ∧ ChainOk G r

def path (S : St) : List Nat := S.frames.map Prod.fst

structure Inv (n : Nat) (G : Nat → List (Option Nat)) (S : St) : Prop where
  idxle : ∀ v, S.index v ≤ S.next
  inj : ∀ u v, S.index u ≠ 0 → S.index u = S.index v → u = v
  vislt : ∀ v, S.index v ≠ 0 → v < n
  memon : ∀ v, v ∈ S.stack ↔ S.on v = true
  onvis : ∀ v, S.on v = true → S.index v ≠ 0
  sorted : S.stack.Pairwise (fun a b => S.index b < S.index a)
  fsorted : (path S).Pairwise (fun a b => S.index b < S.index a)
  fon : ∀ f ∈ S.frames, S.on f.1 = true
  fle : ∀ f ∈ S.frames, f.2 ≤ (G f.1).length
  chain : ChainOk G S.frames
  donef : ∀ f ∈ S.frames, ∀ i y, i < f.2 → (G f.1)[i]? = some (some y) → S.index y ≠ 0
  dones : ∀ v, S.index v ≠ 0 → v ∉ path S → ∀ y, Ed G v y → S.index y ≠ 0
  closed : ∀ v, S.index v ≠ 0 → S.on v = false → ∀ y, Ed G v y → S.on y = false
  down : ∀ v, S.index v ≠ 0 → S.on v = false → ∀ y, Ed G v y → S.comp y ≤ S.comp v
  complt : ∀ v, S.index v ≠ 0 → S.on v = false → S.comp v < S.comps
  used : ∀ c, c < S.comps → ∃ v, S.index v ≠ 0 ∧ S.on v = false ∧ S.comp v = c
  part : ∀ u v, S.index u ≠ 0 → S.on u = false → S.index v ≠ 0 → S.on v = false → S.comp u = S.comp v → Conn (Ed G) u v
  lowle : ∀ v, S.on v = true → S.low v ≤ S.index v
  lowto : ∀ v, S.on v = true → ∃ u, S.on u = true ∧ S.index u = S.low v ∧ Conn (Ed G) v u
  lowfin : ∀ v, S.on v = true → v ∉ path S → S.low v < S.index v
  owner : ∀ v, S.on v = true → v ∉ path S → ∀ f ∈ S.frames, S.index f.1 < S.index v → (∀ f' ∈ S.frames, S.index f'.1 < S.index v → S.index f'.1 ≤ S.index f.1) → S.low f.1 ≤ S.low v
  lowf : ∀ f ∈ S.frames, ∀ i y, i < f.2 → (G f.1)[i]? = some (some y) → S.on y = true → S.low f.1 ≤ S.index y
  lows : ∀ v, S.on v = true → v ∉ path S → ∀ y, Ed G v y → S.on y = true → S.low v ≤ S.index y
  desc : ∀ f ∈ S.frames, ∀ v, S.on v = true → S.index f.1 ≤ S.index v → Conn (Ed G) f.1 v

theorem Inv.start (n : Nat) (G : Nat → List (Option Nat)) : Inv n G s0 := by
  constructor <;> simp [s0, path, ChainOk]

theorem mem_path {S : St} {v : Nat} : v ∈ path S ↔ ∃ e, (v, e) ∈ S.frames := by
  simp [path]

/-- A node is met: at a root, or along an edge of the node under way. -/
theorem Inv.push {n : Nat} {G : Nat → List (Option Nat)} {S : St} (h : Inv n G S) (F : List (Nat × Nat)) (y : Nat) (hy : y < n) (hi : S.index y = 0)
    (hF : F.map Prod.fst = path S) (hFle : ∀ f ∈ F, f.2 ≤ (G f.1).length) (hFc : ChainOk G F) (hFh : HeadEd G y F)
    (hFd : ∀ f ∈ F, ∀ i z, i < f.2 → (G f.1)[i]? = some (some z) → z = y ∨ ∃ e0, (f.1, e0) ∈ S.frames ∧ i < e0) :
    Inv n G (Tj.push { S with frames := F } y) := by
  have hon : S.on y = false := by
    cases hb : S.on y with
    | false => rfl
    | true => exact absurd hi (h.onvis y hb)
  have hpath : ∀ v, v ∈ path (Tj.push { S with frames := F } y) ↔ v = y ∨ v ∈ path S := by
    intro v
    rw [← hF]
    simp [path, Tj.push]
  have hxS : ∀ f ∈ F, f.1 ∈ path S := fun f hf => by rw [← hF]; exact List.mem_map_of_mem hf
  have honS : ∀ f ∈ F, S.on f.1 = true := fun f hf => by
    obtain ⟨e, he⟩ := mem_path.1 (hxS f hf)
    exact h.fon (f.1, e) he
  have hne : ∀ f ∈ F, f.1 ≠ y := fun f hf e => by rw [← e, honS f hf] at hon; cases hon
  have hidx : ∀ v, (Tj.push { S with frames := F } y).index v = if v = y then S.next + 1 else S.index v := fun v => rfl
  have hlow : ∀ v, (Tj.push { S with frames := F } y).low v = if v = y then S.next + 1 else S.low v := fun v => rfl
  have honv : ∀ v, (Tj.push { S with frames := F } y).on v = if v = y then true else S.on v := fun v => rfl
  have hfr : (Tj.push { S with frames := F } y).frames = (y, 0) :: F := rfl
  have hnx : (Tj.push { S with frames := F } y).next = S.next + 1 := rfl
  have hcp : (Tj.push { S with frames := F } y).comp = S.comp := rfl
  have hcs : (Tj.push { S with frames := F } y).comps = S.comps := rfl
  have hst : (Tj.push { S with frames := F } y).stack = y :: S.stack := rfl
  have onne : ∀ v, S.on v = true → v ≠ y := fun v hv e => by rw [e, hon] at hv; cases hv
  constructor
  · intro v
    rw [hidx, hnx]
    split
    · omega
    · have := h.idxle v; omega
  · intro u v hu huv
    simp only [hidx] at hu huv
    have h1 := h.idxle u
    have h2 := h.idxle v
    by_cases e1 : u = y <;> by_cases e2 : v = y <;> simp [e1, e2] at hu huv ⊢
    · omega
    · omega
    · exact h.inj u v hu huv
  · intro v hv
    rw [hidx] at hv
    by_cases e : v = y
    · rw [e]; exact hy
    · rw [if_neg e] at hv; exact h.vislt v hv
  · intro v
    rw [hst, honv]
    by_cases e : v = y
    · simp [e]
    · simp [e, h.memon v]
  · intro v hv
    rw [honv] at hv
    rw [hidx]
    by_cases e : v = y
    · simp [e]
    · rw [if_neg e] at hv ⊢; exact h.onvis v hv
  · rw [hst, List.pairwise_cons]
    refine ⟨fun b hb => ?_, ?_⟩
    · have hbo := (h.memon b).1 hb
      rw [hidx, hidx, if_neg (onne b hbo), if_pos rfl]
      have := h.idxle b; omega
    · refine h.sorted.imp_of_mem ?_
      intro a b ha hb hab
      rw [hidx, hidx, if_neg (onne a ((h.memon a).1 ha)), if_neg (onne b ((h.memon b).1 hb))]
      exact hab
  · have : path (Tj.push { S with frames := F } y) = y :: path S := by rw [← hF]; simp [path, Tj.push]
    rw [this, List.pairwise_cons]
    have hpo : ∀ a ∈ path S, S.on a = true := fun a ha => by
      obtain ⟨e, he⟩ := mem_path.1 ha
      exact h.fon _ he
    refine ⟨fun b hb => ?_, ?_⟩
    · rw [hidx, hidx, if_neg (onne b (hpo b hb)), if_pos rfl]
      have := h.idxle b; omega
    · refine h.fsorted.imp_of_mem ?_
      intro a b ha hb hab
      rw [hidx, hidx, if_neg (onne a (hpo a ha)), if_neg (onne b (hpo b hb))]
      exact hab
  · intro f hf
    rw [hfr] at hf
    rcases List.mem_cons.1 hf with rfl | hf
    · simp [honv]
    · rw [honv, if_neg (hne f hf)]; exact honS f hf
  · intro f hf
    rw [hfr] at hf
    rcases List.mem_cons.1 hf with rfl | hf
    · simp
    · exact hFle f hf
  · rw [hfr]
    exact ⟨hFh, hFc⟩
  · intro f hf i z hi' hz
    rw [hfr] at hf
    rcases List.mem_cons.1 hf with rfl | hf
    · simp at hi'
    · rw [hidx]
      by_cases e : z = y
      · simp [e]
      · rw [if_neg e]
        rcases hFd f hf i z hi' hz with e' | ⟨e0, h0, h1⟩
        · exact absurd e' e
        · exact h.donef _ h0 i z h1 hz
  · intro v hv hp z hz
    rw [hpath] at hp
    have hvy : v ≠ y := fun e => hp (.inl e)
    rw [hidx, if_neg hvy] at hv
    have := h.dones v hv (fun e => hp (.inr e)) z hz
    rw [hidx]
    split
    · omega
    · exact this
  · intro v hv ho z hz
    rw [honv] at ho
    by_cases e : v = y
    · simp [e] at ho
    · rw [if_neg e] at ho
      rw [hidx, if_neg e] at hv
      have h1 := h.closed v hv ho z hz
      have h2 := h.dones v hv (fun hp => by
        obtain ⟨e', he⟩ := mem_path.1 hp
        have := h.fon _ he
        rw [ho] at this; cases this) z hz
      rw [honv]
      by_cases e2 : z = y
      · rw [e2] at h2; exact absurd hi h2
      · rw [if_neg e2]; exact h1
  · intro v hv ho z hz
    rw [honv] at ho
    by_cases e : v = y
    · simp [e] at ho
    · rw [if_neg e] at ho
      rw [hidx, if_neg e] at hv
      rw [hcp]; exact h.down v hv ho z hz
  · intro v hv ho
    rw [honv] at ho
    by_cases e : v = y
    · simp [e] at ho
    · rw [if_neg e] at ho
      rw [hidx, if_neg e] at hv
      rw [hcp, hcs]; exact h.complt v hv ho
  · intro c hc
    rw [hcs] at hc
    obtain ⟨v, h1, h2, h3⟩ := h.used c hc
    have e : v ≠ y := fun e => by rw [e] at h1; exact h1 hi
    exact ⟨v, by rw [hidx, if_neg e]; exact h1, by rw [honv, if_neg e]; exact h2, by rw [hcp]; exact h3⟩
  · intro u v hu hou hv hov huv
    rw [honv] at hou hov
    by_cases e : u = y
    · simp [e] at hou
    · by_cases e2 : v = y
      · simp [e2] at hov
      · rw [if_neg e] at hou
        rw [if_neg e2] at hov
        rw [hidx, if_neg e] at hu
        rw [hidx, if_neg e2] at hv
        rw [hcp] at huv
        exact h.part u v hu hou hv hov huv
  · intro v hv
    rw [honv] at hv
    rw [hidx, hlow]
    by_cases e : v = y
    · simp [e]
    · rw [if_neg e] at hv
      rw [if_neg e, if_neg e]; exact h.lowle v hv
  · intro v hv
    rw [honv] at hv
    by_cases e : v = y
    · exact ⟨y, by simp [honv], by rw [hidx, hlow, if_pos rfl, if_pos e], by rw [e]; exact Conn.refl _ _⟩
    · rw [if_neg e] at hv
      obtain ⟨u, h1, h2, h3⟩ := h.lowto v hv
      exact ⟨u, by rw [honv, if_neg (onne u h1)]; exact h1, by rw [hidx, hlow, if_neg (onne u h1), if_neg e]; exact h2, h3⟩
  · intro v hv hp
    rw [hpath] at hp
    have e : v ≠ y := fun e => hp (.inl e)
    rw [honv, if_neg e] at hv
    rw [hidx, hlow, if_neg e, if_neg e]
    exact h.lowfin v hv (fun e => hp (.inr e))
  · intro v hv hp f hf hfv hmax
    rw [hpath] at hp
    have e : v ≠ y := fun e => hp (.inl e)
    rw [honv, if_neg e] at hv
    rw [hidx v, if_neg e] at hfv
    rw [hfr] at hf
    rcases List.mem_cons.1 hf with rfl | hf
    · simp only [hidx, if_true] at hfv
      have := h.idxle v; omega
    · rw [hlow, hlow, if_neg (hne f hf), if_neg e]
      rw [hidx, if_neg (hne f hf)] at hfv
      obtain ⟨e0, he0⟩ := mem_path.1 (hxS f hf)
      refine h.owner v hv (fun e => hp (.inr e)) (f.1, e0) he0 hfv ?_
      intro f' hf' hlt
      have hf'F : f'.1 ∈ F.map Prod.fst := by rw [hF]; exact List.mem_map_of_mem hf'
      obtain ⟨f'', hf'', e''⟩ := List.mem_map.1 hf'F
      have := hmax f'' (by rw [hfr]; exact List.mem_cons_of_mem _ hf'') (by
        rw [hidx, hidx, if_neg (hne f'' hf''), if_neg e, e'']; exact hlt)
      rw [hidx, hidx, if_neg (hne f'' hf''), if_neg (hne f hf), e''] at this
      exact this
  · intro f hf i z hi' hz hoz
    rw [hfr] at hf
    rcases List.mem_cons.1 hf with rfl | hf
    · simp at hi'
    · rw [hlow, if_neg (hne f hf), hidx]
      have hlo := h.lowle f.1 (honS f hf)
      have hil := h.idxle f.1
      by_cases e : z = y
      · rw [if_pos e]; omega
      · rw [if_neg e]
        rw [honv, if_neg e] at hoz
        rcases hFd f hf i z hi' hz with e' | ⟨e0, h0, h1⟩
        · exact absurd e' e
        · exact h.lowf _ h0 i z h1 hz hoz
  · intro v hv hp z hz hoz
    rw [hpath] at hp
    have e : v ≠ y := fun e => hp (.inl e)
    rw [honv, if_neg e] at hv
    rw [hlow, if_neg e, hidx]
    have hlo := h.lowle v hv
    have hil := h.idxle v
    by_cases e2 : z = y
    · rw [if_pos e2]; omega
    · rw [if_neg e2]
      rw [honv, if_neg e2] at hoz
      exact h.lows v hv (fun e => hp (.inr e)) z hz hoz
  · intro f hf v hv hle
    rw [hfr] at hf
    rw [honv] at hv
    rcases List.mem_cons.1 hf with rfl | hf
    · simp only [hidx, if_true] at hle
      by_cases e : v = y
      · rw [e]; exact Conn.refl _ _
      · rw [if_neg e] at hle
        have := h.idxle v; omega
    · by_cases e : v = y
      · rw [e]
        cases F with
        | nil => cases hf
        | cons g r =>
          have hg : g ∈ g :: r := by simp
          obtain ⟨e0, he0⟩ := mem_path.1 (hxS f hf)
          have hgl : S.index f.1 ≤ S.index g.1 := by
            have hs := h.fsorted
            rw [← hF] at hs
            simp only [List.map_cons, List.pairwise_cons] at hs
            rcases List.mem_cons.1 hf with rfl | hf'
            · exact Nat.le_refl _
            · exact Nat.le_of_lt (hs.1 f.1 (List.mem_map_of_mem hf'))
          exact (h.desc (f.1, e0) he0 g.1 (honS g hg) hgl).trans (Conn.one hFh)
      · rw [if_neg e] at hv
        rw [hidx, hidx, if_neg (hne f hf), if_neg e] at hle
        obtain ⟨e0, he0⟩ := mem_path.1 (hxS f hf)
        exact h.desc (f.1, e0) he0 v hv hle

end Go.Proofs.Qxb6602594a.Tj

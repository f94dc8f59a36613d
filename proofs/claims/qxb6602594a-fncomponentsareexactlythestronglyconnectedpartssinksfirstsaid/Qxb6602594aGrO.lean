import Derived.Test.Qxb6602594aGrB
import Derived.WalkKit
import Derived.ProofKit
import Derived.OpenShut
import Derived.ShutString
import Derived.ChangeOld
import Derived.Below
import Derived.SliceStrings
import Derived.Deep.Matrix
namespace Go.Proofs.Qxb6602594a
open Go.ChangeShapes Go.WideShapes Go.ChangeAt Go.RowKit
set_option linter.unusedVariables false
set_option linter.unusedSimpArgs false

theorem isI32_of {H : Type} {enc : TypeId × Value → H} {W : World} {a : Option Addr} {len cap : Nat} {d : DataW H} {ps : List MemPlace}
    (h : DataW.Trod enc Try.prog W 0 (fun _ => true) true 48 (.slice a len cap) d ps) :
    ∃ zs, IsI .i32 W a len cap zs ∧ len ≤ maxLen ∧ I32s zs := by
  obtain ⟨fuel, hf⟩ := h
  rcases open_ints Try.underlying48 Try.underlying21 (by kernel_rfl) hf with ⟨hcs, _⟩ | ⟨x, l, c, zs, hcs, _, hl, hm, hz, _, hcell, hwz⟩
  · simp [Value.cells] at hcs
    obtain ⟨rfl, rfl, rfl⟩ := hcs
    exact ⟨[], ⟨rfl, fun _ => ⟨rfl, rfl⟩, fun h => absurd h (by omega)⟩, Nat.zero_le _, fun i => by simp⟩
  · simp [Value.cells] at hcs
    obtain ⟨rfl, rfl, rfl⟩ := hcs
    have hz' : zs.length = cap := by simpa using hz
    refine ⟨zs.take len, ⟨by simp; omega, by simp, fun hp => ?_⟩, by omega, fun i => ?_⟩
    · obtain ⟨b, off, rfl, hc⟩ := ints_at hcell (by omega)
      refine ⟨b, off, rfl, fun i hi => ?_⟩
      rw [hc i (by omega)]
      simp [List.getD, hi]
    · have hw : ∀ n ∈ zs.take len, (Lit.int .i32 n).wf = true := fun n hn => hwz n (List.mem_of_mem_take hn)
      have := range_i32 hw i
      simpa [List.getD] using this

theorem isInts_of {H : Type} {enc : TypeId × Value → H} {W : World} {a : Option Addr} {len cap : Nat} {d : DataW H} {ps : List MemPlace}
    (h : DataW.Trod enc Try.prog W 0 (fun _ => true) true 62 (.slice a len cap) d ps) :
    ∃ zs, IsI .i64 W a len cap zs ∧ len ≤ maxLen := by
  obtain ⟨fuel, hf⟩ := h
  rcases open_ints Try.underlying62 Try.underlying3 (by kernel_rfl) hf with ⟨hcs, _⟩ | ⟨x, l, c, zs, hcs, _, hl, hm, hz, _, hcell, hwz⟩
  · simp [Value.cells] at hcs
    obtain ⟨rfl, rfl, rfl⟩ := hcs
    exact ⟨[], ⟨rfl, fun _ => ⟨rfl, rfl⟩, fun h => absurd h (by omega)⟩, Nat.zero_le _⟩
  · simp [Value.cells] at hcs
    obtain ⟨rfl, rfl, rfl⟩ := hcs
    have hz' : zs.length = cap := by simpa using hz
    refine ⟨zs.take len, ⟨by simp; omega, by simp, fun hp => ?_⟩, by omega⟩
    · obtain ⟨b, off, rfl, hc⟩ := ints_at hcell (by omega)
      refine ⟨b, off, rfl, fun i hi => ?_⟩
      rw [hc i (by omega)]
      simp [List.getD, hi]

theorem isRows_of {H : Type} {enc : TypeId × Value → H} {W : World} {a : Option Addr} {len cap : Nat} {d : DataW H} {ps : List MemPlace}
    (h : DataW.Trod enc Try.prog W 0 (fun _ => true) true 38 (.slice a len cap) d ps) :
    ∃ rs, IsRows W a len cap rs ∧ len ≤ maxLen ∧ (∀ i, i < len → (rs.getD i []).length ≤ maxLen) ∧ ∀ i, I32s (rs.getD i []) := by
  obtain ⟨fuel, hf⟩ := h
  rcases Go.Deep.open_int_rows Try.underlying38 Try.underlying48 Try.underlying21 (by kernel_rfl) (by kernel_rfl) hf with ⟨hcs, _⟩ | ⟨x, l, c, A, L, C, Z, hcs, _, hl, hm, _, hrow⟩
  · simp [Value.cells] at hcs
    obtain ⟨rfl, rfl, rfl⟩ := hcs
    exact ⟨[], ⟨rfl, fun _ => ⟨rfl, rfl⟩, fun h => absurd h (by omega)⟩, Nat.zero_le _, fun i hi => absurd hi (by omega), fun i j => by simp⟩
  · simp [Value.cells] at hcs
    obtain ⟨rfl, rfl, rfl⟩ := hcs
    have hget : ∀ i, i < len → ((List.range len).map (fun r => (Z r).take (L r))).getD i [] = (Z i).take (L i) := by
      intro i hi
      rw [List.getD_eq_getElem?_getD, List.getElem?_map, List.getElem?_range hi]
      rfl
    have hout : ∀ i, ¬ i < len → ((List.range len).map (fun r => (Z r).take (L r))).getD i [] = [] := by
      intro i hi
      rw [List.getD_eq_getElem?_getD, List.getElem?_eq_none (by simp; omega)]
      rfl
    refine ⟨(List.range len).map (fun r => (Z r).take (L r)), ⟨by simp, by simp, fun hp => ?_⟩, by omega, fun i hi => ?_, fun i j => ?_⟩
    · obtain ⟨b, off, spot⟩ := x
      have hspot : spot = none := by
        have := World.cell?_spot (hrow 0 (by omega)).1
        simpa [Addr.add] using this
      subst hspot
      refine ⟨b, off, rfl, fun i hi => ?_⟩
      obtain ⟨h1, h2, h3, h4, h5, h6, h7⟩ := hrow i (by omega)
      rw [Addr.add_lit] at h1
      refine ⟨A i, L i, C i, h1, ?_⟩
      rw [hget i hi]
      refine ⟨by simp; omega, fun hn => ?_, fun hp2 => ?_⟩
      · have := h6 hn; exact ⟨by omega, by omega⟩
      · rcases ha : A i with _ | a'
        · have := h6 ha; omega
        · obtain ⟨_, hc⟩ := h7 a' ha
          obtain ⟨b', off', spot'⟩ := a'
          have hspot' : spot' = none := by
            have := World.cell?_spot (hc 0 (by omega))
            simpa [Addr.add] using this
          subst hspot'
          refine ⟨b', off', rfl, fun j hj => ?_⟩
          have := hc j (by omega)
          rw [Addr.add_lit] at this
          rw [this]
          simp [List.getD, hj]
    · obtain ⟨h1, h2, h3, h4, h5, h6, h7⟩ := hrow i (by omega)
      rw [hget i hi]
      simp
      omega
    · by_cases hi : i < len
      · obtain ⟨h1, h2, h3, h4, h5, h6, h7⟩ := hrow i (by omega)
        rw [hget i hi]
        have hw : ∀ n ∈ (Z i).take (L i), (Lit.int .i32 n).wf = true := fun n hn => h5 n (List.mem_of_mem_take hn)
        have := range_i32 hw j
        simpa [List.getD] using this
      · rw [hout i hi]
        simp
end Go.Proofs.Qxb6602594a

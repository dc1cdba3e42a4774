import Derived.Test.Qxb6628493aWalk2
import Derived.OpenShut
import Derived.Deep.Matrix
namespace Go.Proofs.Qxb6628493a
open Go.ChangeShapes Go.WideShapes Go.ChangeAt
open Go.RowKit
open Go.Deep
set_option linter.unusedVariables false

theorem rdU_of {W : World} {a : Option Addr} {L C : Nat} {Z : List Int} (hLC : L ≤ C) (hZ : Z.length = C) (hwf : ∀ n ∈ Z, (Lit.int .u64 n).wf = true) (hnone : a = none → C = 0)
    (hc : ∀ a', a = some a' → 0 ≤ a'.block ∧ ∀ c, c < C → W.cell? (a'.add c) = some (.int .u64 (Z.getD c 0))) : RdU W a ((Z.take L).map Int.toNat) := by
  by_cases h0 : L = 0
  · subst h0; exact .inl (by simp)
  · cases a with
    | none => have := hnone rfl; omega
    | some ad =>
      obtain ⟨_, hcell⟩ := hc ad rfl
      obtain ⟨b, off, spot⟩ := ad
      have hspot : spot = none := by simpa [Addr.add] using World.cell?_spot (hcell 0 (by omega))
      subst hspot
      refine .inr ⟨b, off, rfl, fun l v hl => ?_⟩
      have hlL : l < L := by
        have := (List.getElem?_eq_some_iff.1 hl).1
        simp at this; omega
      have h1 := hcell l (by omega)
      rw [Addr.add_lit] at h1
      rw [h1]
      have hg : Z[l]? = some (Z.getD l 0) := by simp [List.getD, List.getElem?_eq_getElem (show l < Z.length by omega)]
      simp only [List.getElem?_map, List.getElem?_take, if_pos hlL, hg, Option.map_some, Option.some.injEq] at hl
      have hb := bounds_u64 (hwf _ (List.mem_of_getElem? hg))
      rw [← hl]
      congr 2
      omega

theorem argR_of {H : Type} {enc : TypeId × Value → H} {W : World} {fuel : Nat} {a : Option Addr} {len cap : Nat} {x : DataW H × List MemPlace} (h : DataW.trod enc Try.prog W 0 (fun _ => true) true fuel 23 (Value.slice a len cap).cells.toList = some x) :
    ∃ vs rows, ArgR W a vs rows ∧ rows.length = len ∧ len ≤ cap ∧ cap ≤ maxLen := by
  rcases open_int_rows Try.underlying23 Try.underlying28 Try.underlying25 (by kernel_rfl) (by kernel_rfl) h with ⟨hcs, _⟩ | ⟨ad, l, c, A, L, C, Z, hcs, _, hl, hm, _, hrow⟩
  · simp [Value.cells] at hcs
    obtain ⟨rfl, rfl, rfl⟩ := hcs
    exact ⟨[], [], ⟨.inl rfl, rfl, fun k v r hv => by simp at hv⟩, rfl, Nat.le_refl _, Nat.zero_le _⟩
  · simp [Value.cells] at hcs
    obtain ⟨rfl, rfl, rfl⟩ := hcs
    refine ⟨(List.range len).map (fun r => .slice (A r) (L r) (C r)), (List.range len).map (fun r => ((Z r).take (L r)).map Int.toNat), ⟨?_, by simp, ?_⟩, by simp, hl, hm⟩
    · by_cases h0 : len = 0
      · subst h0; exact .inl (by simp)
      · obtain ⟨b, off, spot⟩ := ad
        have hspot : spot = none := by simpa [Addr.add] using World.cell?_spot (hrow 0 (by omega)).1
        subst hspot
        refine .inr ⟨b, off, rfl, fun k v hk => ?_⟩
        have hkl : k < len := by have := (List.getElem?_eq_some_iff.1 hk).1; simpa using this
        have h1 := (hrow k (by omega)).1
        rw [Addr.add_lit] at h1
        rw [h1]
        simpa [hkl] using hk
    · intro k v r hv hr
      have hkl : k < len := by have := (List.getElem?_eq_some_iff.1 hv).1; simpa using this
      simp [hkl] at hv hr
      obtain ⟨_, h1, h2, h3, h4, h5, h6⟩ := hrow k (by omega)
      have hlen : r.length = L k := by rw [← hr]; simp; omega
      refine ⟨A k, C k, by rw [hlen]; exact hv.symm, by omega, h2, ?_⟩
      rw [← hr, ← List.map_take]
      exact rdU_of h1 h3 h4 h5 h6

end Go.Proofs.Qxb6628493a

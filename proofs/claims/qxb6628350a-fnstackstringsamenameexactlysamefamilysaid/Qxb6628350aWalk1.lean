import Derived.Test.Qxb6628350aRows
import Derived.WalkKit
import Derived.ProofKit
import Derived.Deep.QuietTactic
import Derived.BigQuiet
namespace Go.Proofs.Qxb6628350a
open Go.ChangeShapes Go.WideShapes Go.ChangeAt Go.RowKit
set_option linter.unusedVariables false

def nm (a : Int) : ByteArray := if a = 1 then ⟨#[100, 117, 97, 108]⟩ else if a = 2 then ⟨#[105, 112, 118, 54]⟩ else ⟨#[105, 112, 118, 52]⟩
def fam (a : Int) : Int := if a = 1 then 1 else if a = 2 then 2 else 0

theorem string_any (a : Int) (w : World) :
    Calls Try.prog 5 #[.int .i64 a] w fun e w' => e = .returned (.string (nm a)) ∧ w' = w := by
  unfold nm
  by_cases h1 : a = 1
  · subst h1
    go_enter Try.func5, Try.ntmps5
    go_wp2
    go_ret
    exact ⟨rfl, rfl⟩
  · by_cases h2 : a = 2
    · subst h2
      go_enter Try.func5, Try.ntmps5
      go_wp2
      go_ret
      exact ⟨rfl, rfl⟩
    · go_enter Try.func5, Try.ntmps5
      go_wp2
      go_ret
      refine ⟨by simp [*], rfl⟩

theorem fam_any (a : Int) (w : World) :
    Calls Try.prog 7 #[.int .i64 a] w fun e w' => e = .returned (.int .i64 (fam a)) ∧ w' = w := by
  unfold fam
  by_cases h1 : a = 1
  · subst h1
    go_enter Try.func7, Try.ntmps7
    go_wp2
    go_ret
    exact ⟨rfl, rfl⟩
  · by_cases h2 : a = 2
    · subst h2
      go_enter Try.func7, Try.ntmps7
      go_wp2
      go_ret
      exact ⟨rfl, rfl⟩
    · have b1 : (a == 1) = false := by simp [h1]
      have b2 : (a == 2) = false := by simp [h2]
      rw [if_neg h1, if_neg h2]
      clear h1 h2
      go_enter Try.func7, Try.ntmps7
      go_wp2
      go_ret
      exact ⟨rfl, rfl⟩

theorem tok_any (s : ByteArray) (w : World) (hs : s.size = 4) (hall : ∀ (k : Nat) (h : k < s.size), (97 ≤ (s[k].toNat : Int) ∧ (s[k].toNat : Int) ≤ 122) ∨ (48 ≤ (s[k].toNat : Int) ∧ (s[k].toNat : Int) ≤ 57)) :
    Calls Try.prog 6 #[.string s] w fun e w' => e = .returned (.bool true) ∧ w' = w := by
  go_enter Try.func6, Try.ntmps6
  go_wp2
  go_loop [3] (fun i => ∃ k : Nat, k ≤ 4 ∧ i = .int .i64 k) (fun i => 4 - (intOf i).toNat)
  case atStart => exact ⟨0, by omega, rfl⟩
  case round =>
    obtain ⟨k, hk, rfl⟩ := hrel
    by_cases hlt : k < 4
    · have hc := hall k (by omega)
      rcases hc with ⟨h1, h2⟩ | ⟨h1, h2⟩
      · go_wp2
        go_round
        case rel => exact ⟨k + 1, by omega, by go_num⟩
        case measure => simp [intOf]; omega
      · have h3 : ¬ 97 ≤ (s[k].toNat : Int) := by omega
        go_wp2
        go_round
        case rel => exact ⟨k + 1, by omega, by go_num⟩
        case measure => simp [intOf]; omega
    · go_wp2
      go_ret
      exact ⟨rfl, rfl⟩

theorem nm_ok (a : Int) : ∃ x0 x1 x2 x3 : UInt8, nm a = ⟨#[x0, x1, x2, x3]⟩ ∧ ∀ x ∈ [x0, x1, x2, x3], (97 ≤ (x.toNat : Int) ∧ (x.toNat : Int) ≤ 122) ∨ (48 ≤ (x.toNat : Int) ∧ (x.toNat : Int) ≤ 57) := by
  unfold nm
  split
  · exact ⟨_, _, _, _, rfl, by decide⟩
  · split
    · exact ⟨_, _, _, _, rfl, by decide⟩
    · exact ⟨_, _, _, _, rfl, by decide⟩

theorem tok_nm (a : Int) (w : World) :
    Calls Try.prog 6 #[.string (nm a)] w fun e w' => e = .returned (.bool true) ∧ w' = w := by
  obtain ⟨x0, x1, x2, x3, e, h⟩ := nm_ok a
  rw [e]
  refine tok_any _ w rfl ?_
  intro k hk
  have hk' : k < 4 := hk
  match k, hk' with
  | 0, _ => exact h x0 (by simp)
  | 1, _ => exact h x1 (by simp)
  | 2, _ => exact h x2 (by simp)
  | 3, _ => exact h x3 (by simp)

theorem nm_fam (a b : Int) : ((nm a).toList == (nm b).toList) = (fam a == fam b) := by
  rw [ByteArray.toList_eq, ByteArray.toList_eq]
  unfold nm fam
  split <;> (try split) <;> (try split) <;> (try split) <;> (try split) <;> first | rfl | omega | decide

end Go.Proofs.Qxb6628350a

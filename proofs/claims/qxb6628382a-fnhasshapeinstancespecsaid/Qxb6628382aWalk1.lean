import Derived.Test.Qxb6628382aRows
import Derived.Test.Qxb6628382aPlain
import Derived.WalkKit
import Derived.ProofKit
import Derived.WalkSmall
import Derived.Deep.QuietTactic
import Derived.BigQuiet
namespace Go.Proofs.Qxb6628382a
open Go.ChangeShapes Go.WideShapes Go.ChangeAt Go.RowKit
set_option linter.unusedVariables false

def RdB (w : World) (ao : Option Addr) (bs : List UInt8) : Prop :=
  bs = [] ∨ ∃ b off, ao = some ⟨b, off, none⟩ ∧ ∀ (k : Nat) (c : UInt8), bs[k]? = some c → w.cell? ⟨b, off + k, none⟩ = some (.int .u8 (c.toNat : Int))

theorem RdB.drewN {w : World} {ao : Option Addr} {bs : List UInt8} (h : RdB w ao bs) (n : Nat) : RdB (w.drewN n) ao bs := h

theorem upper_any (c : UInt8) (w : World) :
    Calls Try.prog 7 #[.int .u8 (c.toNat : Int)] w fun e w' => e = .returned (.bool (up c)) ∧ w' = w := by
  by_cases h1 : 65 ≤ (c.toNat : Int)
  · by_cases h2 : (c.toNat : Int) ≤ 90
    · go_enter Try.func7, Try.ntmps7
      go_wp2
      go_ret
      exact ⟨by simp [up, h1, h2], rfl⟩
    · go_enter Try.func7, Try.ntmps7
      go_wp2
      go_ret
      exact ⟨by simp [up, h2], rfl⟩
  · go_enter Try.func7, Try.ntmps7
    go_wp2
    go_ret
    exact ⟨by simp [up]; omega, rfl⟩

theorem digit_any (c : UInt8) (w : World) :
    Calls Try.prog 8 #[.int .u8 (c.toNat : Int)] w fun e w' => e = .returned (.bool (dg c)) ∧ w' = w := by
  by_cases h1 : 48 ≤ (c.toNat : Int)
  · by_cases h2 : (c.toNat : Int) ≤ 57
    · go_enter Try.func8, Try.ntmps8
      go_wp2
      go_ret
      exact ⟨by simp [dg, h1, h2], rfl⟩
    · go_enter Try.func8, Try.ntmps8
      go_wp2
      go_ret
      exact ⟨by simp [dg, h2], rfl⟩
  · go_enter Try.func8, Try.ntmps8
    go_wp2
    go_ret
    exact ⟨by simp [dg]; omega, rfl⟩

theorem isdigit_any (c : UInt8) (w : World) :
    Calls Try.prog 12 #[.int .u8 (c.toNat : Int)] w fun e w' => e = .returned (.bool (dg c)) ∧ w' = w := by
  by_cases h1 : 48 ≤ (c.toNat : Int)
  · by_cases h2 : (c.toNat : Int) ≤ 57
    · go_enter Try.func12, Try.ntmps12
      go_wp2
      go_ret
      exact ⟨by simp [dg, h1, h2], rfl⟩
    · go_enter Try.func12, Try.ntmps12
      go_wp2
      go_ret
      exact ⟨by simp [dg, h2], rfl⟩
  · go_enter Try.func12, Try.ntmps12
    go_wp2
    go_ret
    exact ⟨by simp [dg]; omega, rfl⟩

theorem str_get (s : ByteArray) (k : Nat) (h : k < s.size) : s.data.toList[k]? = some s[k] := by
  rw [List.getElem?_eq_getElem (by simpa using h)]; rfl

theorem ok_next {bs ss : List UInt8} {k : Nat} {c d : UInt8} (h : ∀ j : Nat, j < k → ∀ c d : UInt8, bs[j]? = some c → ss[j]? = some d → ok1 c d = true) (hc : bs[k]? = some c) (hd : ss[k]? = some d) (ho : ok1 c d = true) :
    Hid (∀ j : Nat, j < k + 1 → ∀ c d : UInt8, bs[j]? = some c → ss[j]? = some d → ok1 c d = true) := by
  intro j hj c' d' hc' hd'
  by_cases hjk : j < k
  · exact h j hjk c' d' hc' hd'
  · obtain rfl : j = k := by omega
    rw [hc] at hc'; rw [hd] at hd'; cases hc'; cases hd'; exact ho

theorem byte_eq {c d : UInt8} (h : ((c.toNat : Int) != (d.toNat : Int)) = false) : (c == d) = true := by
  simp at h; simpa using UInt8.toNat_inj.1 (by omega)
theorem byte_ne {c d : UInt8} (h : ((c.toNat : Int) != (d.toNat : Int)) = true) : (c == d) = false := by
  simp at h; simp; intro he; exact h (by rw [he])

theorem hs_any (ao : Option Addr) (bs : List UInt8) (n cap : Nat) (s : ByteArray) (w : World) (hb : RdB w ao bs) (hn : bs.length = n) (hcap : n ≤ cap) (hm : cap ≤ maxLen) (hsz : s.size ≤ maxLen) :
    Calls Try.prog 11 #[.slice ao n cap, .string s] w fun e w' => e = .returned (.bool (hs bs s.data.toList)) ∧ ∃ n, w' = w.drewN n := by
  unfold maxLen at hm hsz
  have HN : Hid (bs.length = n) := hn
  clear hn
  by_cases hlt : n < s.size
  · go_enter Try.func11, Try.ntmps11
    go_wp2
    go_ret
    exact ⟨by rw [hs_short (by simpa [HN.out] using hlt)]; rfl, 0, rfl⟩
  · have HB : Hid (RdB w ao bs) := hb
    clear hb
    go_enter Try.func11, Try.ntmps11
    go_wp2
    go_loopw [5] (fun i wr => ∃ k m : Nat, k ≤ s.size ∧ i = .int .i64 k ∧ wr = w.drewN m ∧ Hid (∀ j : Nat, j < k → ∀ c d : UInt8, bs[j]? = some c → s.data.toList[j]? = some d → ok1 c d = true)) (fun i _ => s.size - (intOf i).toNat)
    case atStart => exact ⟨0, 0, Nat.zero_le _, rfl, rfl, fun j hj => absurd hj (by omega)⟩
    case round =>
      obtain ⟨k, m, hk, rfl, rfl, HA⟩ := hrel
      by_cases hks : k < s.size
      · obtain ⟨b, off, rfl, hcell⟩ : ∃ b off, ao = some ⟨b, off, none⟩ ∧ ∀ (k : Nat) (c : UInt8), bs[k]? = some c → w.cell? ⟨b, off + k, none⟩ = some (.int .u8 (c.toNat : Int)) := by
          rcases HB.out with h | h
          · have := HN.out; rw [h] at this; simp at this; omega
          · exact h
        have hgc : bs[k]? = some (bs[k]'(by rw [HN.out]; omega)) := List.getElem?_eq_getElem (by rw [HN.out]; omega)
        obtain ⟨c, hc⟩ : ∃ c, bs[k]? = some c := ⟨_, hgc⟩
        clear hgc
        have hcc := hcell k c hc
        have HC : Hid (bs[k]? = some c) := hc
        clear hc hcell
        have HD : Hid (s.data.toList[k]? = some s[k]) := str_get s k hks
        by_cases h1 : 65 ≤ (s[k].toNat : Int) ∧ (s[k].toNat : Int) ≤ 90
        · obtain ⟨h1, h2⟩ := h1
          have HU : Hid (up s[k] = true) := by show _ = _; simp [up, h1, h2]
          cases hdg : dg c
          · go_wp2_with (go_at_call 12; refine (isdigit_any _ _).mono ?_; rintro e w' ⟨rfl, rfl⟩)
            go_ret
            exact ⟨by rw [hs_false HC.out HD.out (by rw [ok1_up HU.out]; exact hdg)]; rfl, _, rfl⟩
          · go_wp2_with (go_at_call 12; refine (isdigit_any _ _).mono ?_; rintro e w' ⟨rfl, rfl⟩)
            go_roundw
            case rel => exact ⟨k + 1, _, by omega, by go_num, rfl, ok_next HA.out HC.out HD.out (by rw [ok1_up HU.out]; exact hdg)⟩
            case measure => simp [intOf]; omega
        · have HU : Hid (up s[k] = false) := by show _ = _; simp [up]; omega
          by_cases h65 : 65 ≤ (s[k].toNat : Int)
          · have h90 : ¬ (s[k].toNat : Int) ≤ 90 := by omega
            clear h1
            cases hcd : ((c.toNat : Int) != (s[k].toNat : Int))
            · go_wp2
              go_quiet (fail)
              go_wp2
              go_roundw
              case rel => exact ⟨k + 1, _, by omega, by go_num, rfl, ok_next HA.out HC.out HD.out (by rw [ok1_no HU.out]; exact byte_eq hcd)⟩
              case measure => simp [intOf]; omega
            · go_wp2
              go_quiet (fail)
              go_wp2
              go_ret
              exact ⟨by rw [hs_false HC.out HD.out (by rw [ok1_no HU.out]; exact byte_ne hcd)]; rfl, _, World.drewN_drewN _ _ _⟩
          · clear h1
            cases hcd : ((c.toNat : Int) != (s[k].toNat : Int))
            · go_wp2
              go_quiet (fail)
              go_wp2
              go_roundw
              case rel => exact ⟨k + 1, _, by omega, by go_num, rfl, ok_next HA.out HC.out HD.out (by rw [ok1_no HU.out]; exact byte_eq hcd)⟩
              case measure => simp [intOf]; omega
            · go_wp2
              go_quiet (fail)
              go_wp2
              go_ret
              exact ⟨by rw [hs_false HC.out HD.out (by rw [ok1_no HU.out]; exact byte_ne hcd)]; rfl, _, World.drewN_drewN _ _ _⟩
      · go_wp2
        go_ret
        exact ⟨by rw [hs_true (by simpa [HN.out] using hlt) (fun j hj => HA.out j (by simp at hj; omega))]; rfl, _, rfl⟩

theorem zz_hs_any (ao : Option Addr) (bs : List UInt8) (n cap : Nat) (s : ByteArray) (w : World) (hb : RdB w ao bs) (hn : bs.length = n) (hcap : n ≤ cap) (hm : cap ≤ maxLen) (hsz : s.size ≤ maxLen) :
    Calls Try.prog 6 #[.slice ao n cap, .string s] w fun e w' => e = .returned (.bool (hs bs s.data.toList)) ∧ ∃ n, w' = w.drewN n := by
  have HB : Hid (RdB w ao bs) := hb
  have HN : Hid (bs.length = n) := hn
  clear hb hn
  go_enter Try.func6, Try.ntmps6
  go_wp2_with (go_at_call 11; refine (hs_any _ _ _ _ _ _ HB.out HN.out hcap hm hsz).mono ?_; rintro e w' ⟨rfl, m, rfl⟩)
  go_ret
  exact ⟨rfl, m, rfl⟩

theorem zz_hs_list (bs sl : List UInt8) (s : ByteArray) (ao : Option Addr) (n cap : Nat) (w : World) (hb : RdB w ao bs) (hn : bs.length = n) (hcap : n ≤ cap) (hm : cap ≤ maxLen) (hsl : s.data.toList = sl) (hsz : sl.length ≤ maxLen) (r : Bool) (hr : hs bs sl = r) :
    Calls Try.prog 6 #[.slice ao n cap, .string s] w fun e w' => e = .returned (.bool r) ∧ ∃ n, w' = w.drewN n := by
  subst hr
  subst hsl
  exact zz_hs_any ao bs n cap s w hb hn hcap hm (by simpa using hsz)

theorem same_any (ao1 ao2 : Option Addr) (b1 b2 : List UInt8) (n cap1 cap2 : Nat) (w : World) (h1 : RdB w ao1 b1) (h2 : RdB w ao2 b2) (hn1 : b1.length = n) (hn2 : b2.length = n) (hcap1 : n ≤ cap1) (hcap2 : n ≤ cap2) (hm1 : cap1 ≤ maxLen) (hm2 : cap2 ≤ maxLen) :
    Calls Try.prog 9 #[.slice ao1 n cap1, .slice ao2 n cap2] w fun e w' => e = .returned (.bool (b1 == b2)) ∧ ∃ n, w' = w.drewN n := by
  unfold maxLen at hm1 hm2
  have HN1 : Hid (b1.length = n) := hn1
  have HN2 : Hid (b2.length = n) := hn2
  have H1 : Hid (RdB w ao1 b1) := h1
  have H2 : Hid (RdB w ao2 b2) := h2
  clear hn1 hn2 h1 h2
  go_enter Try.func9, Try.ntmps9
  go_wp2
  go_loopw [5] (fun i wr => ∃ k m : Nat, k ≤ n ∧ i = .int .i64 k ∧ wr = w.drewN m ∧ Hid (b1.take k = b2.take k)) (fun i _ => n - (intOf i).toNat)
  case atStart => exact ⟨0, 0, Nat.zero_le _, rfl, rfl, rfl⟩
  case round =>
    obtain ⟨k, m, hk, rfl, rfl, HA⟩ := hrel
    by_cases hks : k < n
    · obtain ⟨x1, o1, rfl, hc1⟩ : ∃ b off, ao1 = some ⟨b, off, none⟩ ∧ ∀ (k : Nat) (c : UInt8), b1[k]? = some c → w.cell? ⟨b, off + k, none⟩ = some (.int .u8 (c.toNat : Int)) := by
        rcases H1.out with h | h
        · have := HN1.out; rw [h] at this; simp at this; omega
        · exact h
      obtain ⟨x2, o2, rfl, hc2⟩ : ∃ b off, ao2 = some ⟨b, off, none⟩ ∧ ∀ (k : Nat) (c : UInt8), b2[k]? = some c → w.cell? ⟨b, off + k, none⟩ = some (.int .u8 (c.toNat : Int)) := by
        rcases H2.out with h | h
        · have := HN2.out; rw [h] at this; simp at this; omega
        · exact h
      obtain ⟨c, hc⟩ : ∃ c, b1[k]? = some c := ⟨_, List.getElem?_eq_getElem (by rw [HN1.out]; omega)⟩
      obtain ⟨d, hd⟩ : ∃ c, b2[k]? = some c := ⟨_, List.getElem?_eq_getElem (by rw [HN2.out]; omega)⟩
      have k1 := hc1 k c hc
      have k2 := hc2 k d hd
      have HC : Hid (b1[k]? = some c) := hc
      have HD : Hid (b2[k]? = some d) := hd
      clear hc hd hc1 hc2
      cases hcd : ((c.toNat : Int) != (d.toNat : Int))
      · go_wp2
        go_quiet (fail)
        go_wp2
        go_roundw
        case rel => exact ⟨k + 1, _, by omega, by go_num, rfl, by
          show _ = _
          have e : c = d := by simpa using byte_eq hcd
          rw [List.take_add_one, List.take_add_one, HA.out, HC.out, HD.out, e]⟩
        case measure => simp [intOf]; omega
      · go_wp2
        go_quiet (fail)
        go_wp2
        go_ret
        refine ⟨?_, _, World.drewN_drewN _ _ _⟩
        have e : (b1 == b2) = false := by
          have := byte_ne hcd
          simp at this ⊢
          rintro rfl
          have h1 := HC.out; rw [HD.out] at h1; cases h1; exact this rfl
        rw [e]; rfl
    · go_wp2
      go_ret
      refine ⟨?_, _, rfl⟩
      have h := HA.out
      have h1 := HN1.out
      have h2 := HN2.out
      rw [List.take_of_length_le (by omega), List.take_of_length_le (by omega)] at h
      rw [h]; simp

theorem bytes1_any (ao : Option Addr) (n cap : Nat) (s : ByteArray) (x y : Int) (w : World) (hcap : n ≤ cap) (hm : cap ≤ maxLen) (hsz : s.size ≤ maxLen) :
    Calls Try.prog 5 #[.slice ao n cap, .string s, .int .i64 x, .int .i64 y] w fun e w' => ∃ r : Bool, e = .returned (.bool r) ∧ w = w' := by
  unfold maxLen at hm hsz
  go_enter Try.func5, Try.ntmps5
  go_wp2
  all_goals (go_ret; exact ⟨_, rfl, rfl⟩)

theorem bytes2_any (ao ao' : Option Addr) (n cap n' cap' : Nat) (s : ByteArray) (w : World) (hcap : n ≤ cap) (hm : cap ≤ maxLen) (hcap' : n' ≤ cap') (hm' : cap' ≤ maxLen) (hsz : s.size ≤ maxLen) :
    Calls Try.prog 10 #[.slice ao n cap, .slice ao' n' cap', .string s] w fun e w' => ∃ r : Bool, e = .returned (.bool r) ∧ w = w' := by
  unfold maxLen at hm hm' hsz
  go_enter Try.func10, Try.ntmps10
  go_wp2
  all_goals (go_ret; exact ⟨_, rfl, rfl⟩)

end Go.Proofs.Qxb6628382a

import Derived.Test.Qxb6628493aRows
import Derived.Test.Qxb6628493aPlain
import Derived.WalkKit
import Derived.ProofKit
import Derived.WalkSmall
import Derived.Lib.Mul64
import Derived.Laws.Bits64b
import Derived.Deep.QuietTactic
import Derived.BigQuiet
namespace Go.Proofs.Qxb6628493a
open Go.ChangeShapes Go.WideShapes Go.ChangeAt
open Go.RowKit
open Go.Lib
set_option linter.unusedVariables false

theorem maskN (a : Nat) (ha : a < 18446744073709551616) : bits .and .u64 (a : Int) 4294967295 = ((a % 4294967296 : Nat) : Int) := by
  have h := bits_and_u64_nat a 4294967295 ha (by omega)
  have e : a &&& 4294967295 = a % 4294967296 := Nat.and_two_pow_sub_one_eq_mod a 32
  rw [e] at h
  exact h
theorem mask61 (a : Nat) (ha : a < 18446744073709551616) : bits .and .u64 (a : Int) 2305843009213693951 = ((a % 2305843009213693952 : Nat) : Int) := by
  have h := bits_and_u64_nat a 2305843009213693951 ha (by omega)
  have e : a &&& 2305843009213693951 = a % 2305843009213693952 := Nat.and_two_pow_sub_one_eq_mod a 61
  rw [e] at h
  exact h
theorem mask29 (a : Nat) (ha : a < 18446744073709551616) : bits .and .u64 (a : Int) 536870911 = ((a % 536870912 : Nat) : Int) := by
  have h := bits_and_u64_nat a 536870911 ha (by omega)
  have e : a &&& 536870911 = a % 536870912 := Nat.and_two_pow_sub_one_eq_mod a 29
  rw [e] at h
  exact h
theorem divN (a : Nat) : (a : Int) / 4294967296 = ((a / 4294967296 : Nat) : Int) := by omega
theorem mulN (a b : Nat) : (a : Int) * (b : Int) = ((a * b : Nat) : Int) := (Int.natCast_mul a b).symm
theorem addN (a b : Nat) : (a : Int) + (b : Int) = ((a + b : Nat) : Int) := (Int.natCast_add a b).symm
theorem wrapN (a : Nat) (ha : a < 18446744073709551616) : IntKind.u64.wrap (a : Int) = (a : Int) := by rw [IntKind.wrap_u64]; omega
theorem wrapM (a : Nat) : IntKind.u64.wrap (a : Int) = ((a % 18446744073709551616 : Nat) : Int) := by rw [IntKind.wrap_u64]; omega

set_option maxHeartbeats 1000000 in
theorem mul64_any (x y : Nat) (hx : x < 18446744073709551616) (hy : y < 18446744073709551616) (w : World) :
    Calls Try.prog 16 #[.int .u64 x, .int .u64 y] w fun e w' => e = .returned (.tuple #[.int .u64 ((x * y / 18446744073709551616 : Nat) : Int), .int .u64 ((x * y % 18446744073709551616 : Nat) : Int)]) ∧ w' = w := by
  obtain ⟨bd, bt, bw, hhi⟩ := Lib.mul64_hi x y hx hy
  have ba := Lib.half_mul_le (a := x / 4294967296) (b := y / 4294967296) (by omega) (by omega)
  have bb := Lib.half_mul_le (a := x / 4294967296) (b := y % 4294967296) (by omega) (by omega)
  have bc := Lib.half_mul_le (a := x % 4294967296) (b := y / 4294967296) (by omega) (by omega)
  have ba' : x / 4294967296 * (y / 4294967296) < 18446744073709551616 := by omega
  have bb' : x / 4294967296 * (y % 4294967296) < 18446744073709551616 := by omega
  have bc' : x % 4294967296 * (y / 4294967296) < 18446744073709551616 := by omega
  have bh1 : x / 4294967296 * (y / 4294967296) + (x / 4294967296 * (y % 4294967296) + x % 4294967296 * (y % 4294967296) / 4294967296) / 4294967296 < 18446744073709551616 := by omega
  have bh : x / 4294967296 * (y / 4294967296) + (x / 4294967296 * (y % 4294967296) + x % 4294967296 * (y % 4294967296) / 4294967296) / 4294967296 + ((x / 4294967296 * (y % 4294967296) + x % 4294967296 * (y % 4294967296) / 4294967296) % 4294967296 + x % 4294967296 * (y / 4294967296)) / 4294967296 < 18446744073709551616 := by omega
  go_enter Try.func16, Try.ntmps16
  go_wp2
  simp only [maskN x hx, maskN y hy, divN, mulN, addN, wrapN _ bd, wrapN _ bb', wrapN _ bt, maskN _ bt, wrapN _ bc', wrapN _ bw, wrapN _ ba', wrapN _ bh1, wrapN _ bh, wrapM (x * y)]
  rw [hhi]
  go_ret2
  exact ⟨rfl, rfl⟩

def iadd (a b : Int) : Int := (a + b) % 2305843009213693951
def imul (a b : Int) : Int := (a * b) % 2305843009213693951
def ired (a : Int) : Int := a % 2305843009213693951
theorem iadd_nat (a b : Nat) : iadd (a : Int) (b : Int) = ((fadd a b : Nat) : Int) := by
  unfold iadd fadd; rw [Pm_eq]; omega
theorem imul_nat (a b : Nat) : imul (a : Int) (b : Int) = ((fmul a b : Nat) : Int) := by
  unfold imul fmul; rw [Pm_eq, mulN]; omega
theorem iadd_rng (a b : Int) : 0 ≤ iadd a b ∧ iadd a b < 2305843009213693951 := by unfold iadd; omega
theorem imul_rng (a b : Int) : 0 ≤ imul a b ∧ imul a b < 2305843009213693951 := by
  unfold imul; generalize a * b = c; omega
theorem ired_rng (a : Int) : 0 ≤ ired a ∧ ired a < 2305843009213693951 := by unfold ired; omega
theorem iadd_no {a b : Int} (h0 : 0 ≤ a) (h1 : 0 ≤ b) (h : a + b < 2305843009213693951) : iadd a b = a + b := by unfold iadd; omega
theorem iadd_yes {a b : Int} (h0 : 0 ≤ a) (h1 : 0 ≤ b) (h2 : a < 2305843009213693951) (h3 : b < 2305843009213693951) (h : ¬ a + b < 2305843009213693951) : iadd a b = a + b - 2305843009213693951 := by unfold iadd; omega

theorem ret_int {k : IntKind} {a b : Int} (h : a = b) : Ending.returned (.int k a) = .returned (.int k b) := by rw [h]

theorem add_any (a b : Int) (h0 : 0 ≤ a) (h1 : 0 ≤ b) (h2 : a < 2305843009213693951) (h3 : b < 2305843009213693951) (w : World) :
    Calls Try.prog 13 #[.int .u64 a, .int .u64 b] w fun e w' => e = .returned (.int .u64 (iadd a b)) ∧ w' = w := by
  by_cases h : a + b < 2305843009213693951
  · go_enter Try.func13, Try.ntmps13
    go_wp2
    go_ret
    exact ⟨ret_int (iadd_no h0 h1 h).symm, rfl⟩
  · go_enter Try.func13, Try.ntmps13
    go_wp2
    go_ret
    exact ⟨ret_int (iadd_yes h0 h1 h2 h3 (by omega)).symm, rfl⟩

theorem zadd_any (a b : Int) (h0 : 0 ≤ a) (h1 : 0 ≤ b) (h2 : a < 2305843009213693951) (h3 : b < 2305843009213693951) (w : World) :
    Calls Try.prog 10 #[.int .u64 a, .int .u64 b] w fun e w' => e = .returned (.int .u64 (iadd a b)) ∧ w' = w := by
  by_cases h : a + b < 2305843009213693951
  · go_enter Try.func10, Try.ntmps10
    go_wp2
    go_ret
    exact ⟨ret_int (iadd_no h0 h1 h).symm, rfl⟩
  · go_enter Try.func10, Try.ntmps10
    go_wp2
    go_ret
    exact ⟨ret_int (iadd_yes h0 h1 h2 h3 (by omega)).symm, rfl⟩

theorem and61 (v : Int) (h0 : 0 ≤ v) (h1 : v < 18446744073709551616) : bits .and .u64 v 2305843009213693951 = v % 2305843009213693952 := by
  obtain ⟨n, rfl⟩ : ∃ n : Nat, v = n := ⟨v.toNat, by omega⟩
  rw [mask61 n (by omega)]; omega
theorem and32 (v : Int) (h0 : 0 ≤ v) (h1 : v < 18446744073709551616) : bits .and .u64 v 4294967295 = v % 4294967296 := by
  obtain ⟨n, rfl⟩ : ∃ n : Nat, v = n := ⟨v.toNat, by omega⟩
  rw [maskN n (by omega)]; omega
theorem and29 (v : Int) (h0 : 0 ≤ v) (h1 : v < 18446744073709551616) : bits .and .u64 v 536870911 = v % 536870912 := by
  obtain ⟨n, rfl⟩ : ∃ n : Nat, v = n := ⟨v.toNat, by omega⟩
  rw [mask29 n (by omega)]; omega

theorem red_any (v : Int) (h0 : 0 ≤ v) (h1 : v < 18446744073709551616) (w : World) :
    Calls Try.prog 15 #[.int .u64 v] w fun e w' => e = .returned (.int .u64 (ired v)) ∧ w' = w := by
  have hand := and61 v h0 h1
  obtain ⟨r, hr⟩ : ∃ r, v % 2305843009213693952 = r := ⟨_, rfl⟩
  rw [hr] at hand
  have r0 : 0 ≤ r := by omega
  have r1 : r < 2305843009213693952 := by omega
  have HR : Hid (v % 2305843009213693952 = r) := hr
  clear hr
  by_cases h : r + v / 2305843009213693952 < 2305843009213693951
  · have HE : Hid (ired v = r + v / 2305843009213693952) := by
      have := HR.out
      show _ = _
      unfold ired; omega
    go_enter Try.func15, Try.ntmps15
    go_wp2
    go_ret
    exact ⟨ret_int HE.out.symm, rfl⟩
  · have HE : Hid (ired v = r + v / 2305843009213693952 - 2305843009213693951) := by
      have := HR.out
      show _ = _
      unfold ired; omega
    go_enter Try.func15, Try.ntmps15
    go_wp2
    go_ret
    exact ⟨ret_int HE.out.symm, rfl⟩

theorem mul64_int (a b : Int) (h0 : 0 ≤ a) (h1 : 0 ≤ b) (h2 : a < 18446744073709551616) (h3 : b < 18446744073709551616) (hi lo : Int) (hh : a * b / 18446744073709551616 = hi) (hl : a * b % 18446744073709551616 = lo) (w : World) :
    Calls Try.prog 16 #[.int .u64 a, .int .u64 b] w fun e w' => e = .returned (.tuple #[.int .u64 hi, .int .u64 lo]) ∧ w' = w := by
  obtain ⟨x, rfl⟩ : ∃ n : Nat, a = n := ⟨a.toNat, by omega⟩
  obtain ⟨y, rfl⟩ : ∃ n : Nat, b = n := ⟨b.toNat, by omega⟩
  have := mul64_any x y (by omega) (by omega) w
  rw [mulN] at hh hl
  rw [show ((x * y / 18446744073709551616 : Nat) : Int) = hi by omega, show ((x * y % 18446744073709551616 : Nat) : Int) = lo by omega] at this
  exact this

theorem fm_eq {N hi lo r : Int} (hN0 : 0 ≤ N) (hN : N ≤ 2305843009213693950 * 2305843009213693950) (hh : N / 18446744073709551616 = hi) (hl : N % 18446744073709551616 = lo) (hr : lo % 2305843009213693952 = r) :
    0 ≤ hi ∧ hi < 288230376151711744 ∧ 0 ≤ lo ∧ lo < 18446744073709551616 ∧ 0 ≤ r ∧ r < 2305843009213693952 ∧
    (r + lo / 2305843009213693952 + hi * 8 < 2305843009213693951 → N % 2305843009213693951 = r + lo / 2305843009213693952 + hi * 8) ∧
    (¬ r + lo / 2305843009213693952 + hi * 8 < 2305843009213693951 → N % 2305843009213693951 = r + lo / 2305843009213693952 + hi * 8 - 2305843009213693951 ∧ r + lo / 2305843009213693952 + hi * 8 < 4611686018427387902) := by
  refine ⟨by omega, by omega, by omega, by omega, by omega, by omega, by omega, by omega⟩

theorem prod_le {a b : Int} (h0 : 0 ≤ a) (h1 : 0 ≤ b) (h2 : a < 2305843009213693951) (h3 : b < 2305843009213693951) : 0 ≤ a * b ∧ a * b ≤ 2305843009213693950 * 2305843009213693950 :=
  ⟨Int.mul_nonneg h0 h1, Int.mul_le_mul (by omega) (by omega) h1 (by omega)⟩

theorem mul_any (a b : Int) (h0 : 0 ≤ a) (h1 : 0 ≤ b) (h2 : a < 2305843009213693951) (h3 : b < 2305843009213693951) (w : World) :
    Calls Try.prog 14 #[.int .u64 a, .int .u64 b] w fun e w' => e = .returned (.int .u64 (imul a b)) ∧ w' = w := by
  obtain ⟨hN0, hN⟩ := prod_le h0 h1 h2 h3
  obtain ⟨hi, hh⟩ : ∃ r, a * b / 18446744073709551616 = r := ⟨_, rfl⟩
  obtain ⟨lo, hl⟩ : ∃ r, a * b % 18446744073709551616 = r := ⟨_, rfl⟩
  obtain ⟨r, hr⟩ : ∃ r, lo % 2305843009213693952 = r := ⟨_, rfl⟩
  obtain ⟨hi0, hi1, lo0, lo1, r0, r1, hno, hyes⟩ := fm_eq hN0 hN hh hl hr
  have hand := and61 lo lo0 lo1
  rw [hr] at hand
  have HC : Hid (∀ w : World, Calls Try.prog 16 #[.int .u64 a, .int .u64 b] w fun e w' => e = .returned (.tuple #[.int .u64 hi, .int .u64 lo]) ∧ w' = w) := fun w => mul64_int a b h0 h1 (by omega) (by omega) hi lo hh hl w
  have HY : Hid _ := hyes
  have HN' : Hid _ := hno
  clear hr hh hl hN0 hN hyes hno
  by_cases h : r + lo / 2305843009213693952 + hi * 8 < 2305843009213693951
  · have HE : Hid (imul a b = r + lo / 2305843009213693952 + hi * 8) := HN'.out h
    go_enter Try.func14, Try.ntmps14
    go_wp2_with (go_at_call 16; refine (HC.out _).mono ?_; rintro e w' ⟨rfl, rfl⟩)
    go_ret
    exact ⟨ret_int HE.out.symm, rfl⟩
  · obtain ⟨e1, e2⟩ := HY.out h
    have HE : Hid (imul a b = r + lo / 2305843009213693952 + hi * 8 - 2305843009213693951) := e1
    clear e1
    go_enter Try.func14, Try.ntmps14
    go_wp2_with (go_at_call 16; refine (HC.out _).mono ?_; rintro e w' ⟨rfl, rfl⟩)
    go_ret
    exact ⟨ret_int HE.out.symm, rfl⟩

theorem half_bd {a b : Int} {m n : Int} (h0 : 0 ≤ a) (h1 : 0 ≤ b) (h2 : a ≤ m) (h3 : b ≤ n) : 0 ≤ a * b ∧ a * b ≤ m * n :=
  ⟨Int.mul_nonneg h0 h1, Int.mul_le_mul h2 h3 h1 (by omega)⟩

theorem school (a1 a0 b1 b0 A B C D : Int) (hA : a1 * b1 = A) (hB : a1 * b0 = B) (hC : a0 * b1 = C) (hD : a0 * b0 = D) :
    (a1 * 4294967296 + a0) * (b1 * 4294967296 + b0) = A * 18446744073709551616 + (B + C) * 4294967296 + D := by
  rw [← hA, ← hB, ← hC, ← hD, Int.add_mul, Int.mul_add, Int.mul_add]
  have e1 : a1 * 4294967296 * (b1 * 4294967296) = a1 * b1 * 18446744073709551616 := by
    rw [Int.mul_assoc, ← Int.mul_assoc 4294967296, Int.mul_comm 4294967296 b1, Int.mul_assoc b1, ← Int.mul_assoc]; rfl
  have e2 : a1 * 4294967296 * b0 = a1 * b0 * 4294967296 := by rw [Int.mul_assoc, Int.mul_comm 4294967296, ← Int.mul_assoc]
  have e3 : a0 * (b1 * 4294967296) = a0 * b1 * 4294967296 := by rw [← Int.mul_assoc]
  rw [e1, e2, e3, Int.add_mul]
  omega

theorem school_mod (N A M D : Int) (hA0 : 0 ≤ A) (hM0 : 0 ≤ M) (hD0 : 0 ≤ D) (hN : N = A * 18446744073709551616 + M * 4294967296 + D) :
    iadd (iadd (ired (A * 8)) (iadd (ired (M / 536870912)) (ired (M % 536870912 * 4294967296)))) (ired D) = N % 2305843009213693951 := by
  unfold iadd ired
  rw [hN]
  omega

set_option maxHeartbeats 1000000 in
theorem zmul_any (a b : Int) (h0 : 0 ≤ a) (h1 : 0 ≤ b) (h2 : a < 2305843009213693951) (h3 : b < 2305843009213693951) (w : World) :
    Calls Try.prog 11 #[.int .u64 a, .int .u64 b] w fun e w' => e = .returned (.int .u64 (imul a b)) ∧ w' = w := by
  have qa0 := and32 a h0 (by omega)
  have qb0 := and32 b h1 (by omega)
  obtain ⟨a1, ha1⟩ : ∃ r, a / 4294967296 = r := ⟨_, rfl⟩
  obtain ⟨a0, ha0⟩ : ∃ r, a % 4294967296 = r := ⟨_, rfl⟩
  obtain ⟨b1, hb1⟩ : ∃ r, b / 4294967296 = r := ⟨_, rfl⟩
  obtain ⟨b0, hb0⟩ : ∃ r, b % 4294967296 = r := ⟨_, rfl⟩
  rw [ha0] at qa0
  rw [hb0] at qb0
  obtain ⟨A, hA⟩ : ∃ r, a1 * b1 = r := ⟨_, rfl⟩
  obtain ⟨B, hB⟩ : ∃ r, a1 * b0 = r := ⟨_, rfl⟩
  obtain ⟨C, hC⟩ : ∃ r, a0 * b1 = r := ⟨_, rfl⟩
  obtain ⟨D, hD⟩ : ∃ r, a0 * b0 = r := ⟨_, rfl⟩
  have bA := half_bd (a := a1) (b := b1) (m := 536870911) (n := 536870911) (by omega) (by omega) (by omega) (by omega)
  have bB := half_bd (a := a1) (b := b0) (m := 536870911) (n := 4294967295) (by omega) (by omega) (by omega) (by omega)
  have bC := half_bd (a := a0) (b := b1) (m := 4294967295) (n := 536870911) (by omega) (by omega) (by omega) (by omega)
  have bD := half_bd (a := a0) (b := b0) (m := 4294967295) (n := 4294967295) (by omega) (by omega) (by omega) (by omega)
  rw [hA] at bA
  rw [hB] at bB
  rw [hC] at bC
  rw [hD] at bD
  have A0 : 0 ≤ A := bA.1
  have A1 : A ≤ 288230375077969921 := by have := bA.2; omega
  have B0 : 0 ≤ B := bB.1
  have B1 : B ≤ 2305843004381855745 := by have := bB.2; omega
  have C0 : 0 ≤ C := bC.1
  have C1 : C ≤ 2305843004381855745 := by have := bC.2; omega
  have D0 : 0 ≤ D := bD.1
  have D1 : D ≤ 18446744065119617025 := by have := bD.2; omega
  have qm := and29 (B + C) (by omega) (by omega)
  obtain ⟨m0, hm0⟩ : ∃ r, (B + C) % 536870912 = r := ⟨_, rfl⟩
  rw [hm0] at qm
  have m00 : 0 ≤ m0 := by omega
  have m01 : m0 < 536870912 := by omega
  have HN : Hid (iadd (iadd (ired (A * 8)) (iadd (ired ((B + C) / 536870912)) (ired (m0 * 4294967296)))) (ired D) = imul a b) := by
    show _ = _
    rw [← hm0]
    refine school_mod (a * b) A (B + C) D A0 (by omega) D0 ?_
    rw [← school a1 a0 b1 b0 A B C D hA hB hC hD]
    have ea : a = a1 * 4294967296 + a0 := by omega
    have eb : b = b1 * 4294967296 + b0 := by omega
    rw [← ea, ← eb]
  clear bA bB bC bD hm0 ha0 hb0
  have R1 := ired_rng (A * 8)
  have R2 := ired_rng ((B + C) / 536870912)
  have R3 := ired_rng (m0 * 4294967296)
  have R4 := ired_rng D
  have R5 := iadd_rng (ired ((B + C) / 536870912)) (ired (m0 * 4294967296))
  have R6 := iadd_rng (ired (A * 8)) (iadd (ired ((B + C) / 536870912)) (ired (m0 * 4294967296)))
  go_enter Try.func11, Try.ntmps11
  go_wp2_with (first
    | (go_at_call 15; refine (red_any _ (by omega) (by omega) _).mono ?_; rintro e w' ⟨rfl, rfl⟩)
    | (go_at_call 10; refine (zadd_any _ _ (by omega) (by omega) (by omega) (by omega) _).mono ?_; rintro e w' ⟨rfl, rfl⟩))
  go_ret
  exact ⟨ret_int HN.out, rfl⟩

theorem cast_rng (n : Nat) (h : n < Pm) : 0 ≤ (n : Int) ∧ (n : Int) < 2305843009213693951 := by
  have : n < 2305843009213693951 := h
  omega

theorem pow_any (X c : Nat) (x : Int) (hx : x = (X : Int)) (hX : X < Pm) (hc : c ≤ 1048576) (w : World) :
    Calls Try.prog 9 #[.int .u64 x, .int .i64 (c : Int)] w fun e w' => ∃ p : Int, e = .returned (.int .u64 p) ∧ Hid (p = ((X ^ c % Pm : Nat) : Int)) ∧ w' = w := by
  have HX : Hid (x = (X : Int)) := hx
  have HXr : Hid (0 ≤ x ∧ x < 2305843009213693951) := by rw [hx]; exact cast_rng X hX
  clear hx hX
  go_enter Try.func9, Try.ntmps9
  go_wp2
  go_loop [5, 6] (fun p i => ∃ (k : Nat) (q : Int), k ≤ c ∧ i = .int .i64 k ∧ p = .int .u64 q ∧ Hid (q = ((X ^ k % Pm : Nat) : Int))) (fun _ i => c - (intOf i).toNat)
  case atStart => exact ⟨0, 1, Nat.zero_le _, rfl, rfl, by show _ = _; rfl⟩
  case round =>
    obtain ⟨k, q, hk, rfl, rfl, HQ⟩ := hrel
    have HQr : Hid (0 ≤ q ∧ q < 2305843009213693951) := by rw [HQ.out]; exact cast_rng _ (Nat.mod_lt _ Pm_pos)
    by_cases hkc : k < c
    · go_wp2_with (go_at_call 11; refine (zmul_any _ _ HQr.out.1 HXr.out.1 HQr.out.2 HXr.out.2 _).mono ?_; rintro e w' ⟨rfl, rfl⟩)
      go_round
      case rel => exact ⟨k + 1, _, by omega, by go_num, rfl, by show _ = _; rw [HQ.out, HX.out, imul_nat, pow_next]⟩
      case measure => simp [intOf]; omega
    · obtain rfl : k = c := by omega
      go_wp2
      go_ret
      exact ⟨q, rfl, HQ, rfl⟩

end Go.Proofs.Qxb6628493a

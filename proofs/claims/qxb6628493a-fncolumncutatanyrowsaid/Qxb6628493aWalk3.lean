import Derived.Test.Qxb6628493aWalk2
namespace Go.Proofs.Qxb6628493a
open Go.ChangeShapes Go.WideShapes Go.ChangeAt
open Go.RowKit
open Go.Lib
set_option linter.unusedVariables false

theorem Try.info25 : (Try.prog.info? 25).map (fun i => (i.zero, i.size, i.bytes)) = some (some (.int .u64 0), 1, 8) := by kernel_rfl

def uv (l : List Nat) : List Value := l.map fun n : Nat => Value.int .u64 (n : Int)
theorem uv_length (l : List Nat) : (uv l).length = l.length := by simp [uv]
theorem uv_get (l : List Nat) (i : Nat) : (uv l)[i]? = (l[i]?).map fun n : Nat => Value.int .u64 (n : Int) := by simp [uv]

theorem own_block {w : World} {base e g n : Nat} {xs : List Value} (h : w.ownsRow base e 1 (.slice (some ⟨g, 0, none⟩) n n) n xs) : w.heap[g]? = some (.cells xs.toArray e (0, 0)) := by
  obtain ⟨hl, h | ⟨g', cap, cur, hv, hb, hh, _, _, hs, ht⟩⟩ := h
  · cases h.1
  · cases hv
    rw [hh]
    rw [List.take_of_length_le (by simp [hs])] at ht
    rw [← ht]

theorem coef_row {rows : List (List Nat)} {r : List Nat} {k : Nat} (h : rows[k]? = some r) (l : Nat) : coef rows k l = r.getD l 0 := by
  unfold coef; simp [List.getD, h]

theorem h_step {wr : World} {base g n cap : Nat} {f : List (List Nat)} {x k j p : Nat} {v : Int} (h : wr.ownsRow base 25 1 (.slice (some ⟨g, 0, none⟩) n cap) n (uv (part f x n k j))) (hj : j < n) (hp : p = x ^ k % Pm)
    (hv : v = ((fadd (S f x k j % Pm) (fmul (coef f k j) p) : Nat) : Int)) :
    (wr.setCell ⟨g, j, none⟩ (.int .u64 v)).ownsRow base 25 1 (.slice (some ⟨g, 0, none⟩) n cap) n (uv (part f x n k (j + 1))) := by
  have := (h.stored j (.int .u64 v)).1
  rw [← part_next f x n k j p hj hp, hv]
  have e : uv ((part f x n k j).set j (fadd (S f x k j % Pm) (fmul (coef f k j) p))) = (uv (part f x n k j)).set j (.int .u64 ((fadd (S f x k j % Pm) (fmul (coef f k j) p) : Nat) : Int)) := by simp [uv]
  rw [e, ← hv]
  exact this

set_option maxRecDepth 100000 in
set_option maxHeartbeats 1000000 in
theorem column_any (ao : Option Addr) (n cap : Nat) (vs : List Value) (rows : List (List Nat)) (X : Nat) (x : Int) (w : World) (h : ArgR w ao vs rows) (hn : rows.length = n) (hcap : n ≤ cap) (hm : cap ≤ maxLen) (hg : Good rows n) (hx : x = (X : Int)) (hX : X < Pm) (hnl : n ≤ 1048576) :
    Calls Try.prog 8 #[.slice ao n cap, .int .u64 x] w fun e w' => e = .returned (.slice (some ⟨w.heap.size, 0, none⟩) n n) ∧ Hid (w'.ownsRow w.heap.size 25 1 (.slice (some ⟨w.heap.size, 0, none⟩) n n) n (uv (col rows X n))) ∧ Hid (Below w.heap.size w w') := by
  have H : Hid (ArgR w ao vs rows) := h
  have HN : Hid (rows.length = n) := hn
  have HG : Hid (Good rows n) := hg
  have HX : Hid (x = (X : Int)) := hx
  have HXr : Hid (0 ≤ x ∧ x < 2305843009213693951) := by rw [hx]; exact cast_rng X hX
  clear h hn hg hx hX
  obtain ⟨i0, hi, hz0, hz1, hz2⟩ := info_parts Try.info25
  go_enter Try.func8, Try.ntmps8
  go_wp2_with (at_make; refine wpList_make_full _ rfl _ _ 29 rfl w.heap.size 25 i0 (.int .u64 0) 1 Try.underlying29 hi hz0 hz1 .i64 .i64 _ _ n rfl rfl rfl rfl (by rw [hz2]; omega) (by unfold maxLen; omega) (Nat.le_refl _) ?_; intro w2 hown2 hgrow2)
  have HO2 : Hid (w2.ownsRow w.heap.size 25 1 (.slice (some ⟨w.heap.size, 0, none⟩) n n) n (uv (part rows X n 0 0))) := by
    have e : (madeCells (Value.int .u64 0).cells (n * 1)).toList = uv (part rows X n 0 0) := by
      rw [show (Value.int .u64 0).cells = #[Value.int .u64 0] from rfl, Nat.mul_one, toList_madeCells_one, part_start]
      simp [uv]
    rw [e] at hown2
    exact hown2
  have HB2 : Hid (Below w.heap.size w w2) := (Below.refl _ _).grown hgrow2 (Nat.le_refl _) (by simp)
  clear hown2 hgrow2
  go_loopw [6, 16] (fun p i wr => ∃ (k : Nat) (q : Int), k ≤ n ∧ i = .int .i64 k ∧ p = .int .u64 q ∧ Hid (q = ((X ^ k % Pm : Nat) : Int)) ∧ Hid (wr.ownsRow w.heap.size 25 1 (.slice (some ⟨w.heap.size, 0, none⟩) n n) n (uv (part rows X n k 0))) ∧ Hid (Below w.heap.size w wr)) (fun _ i _ => n - (intOf i).toNat)
  case atStart => exact ⟨0, 1, Nat.zero_le _, rfl, rfl, by show _ = _; rfl, HO2, HB2⟩
  case round =>
    obtain ⟨k, q, hk, rfl, rfl, HQ, HO, HB⟩ := hrel
    have HQr : Hid (0 ≤ q ∧ q < 2305843009213693951) := by rw [HQ.out]; exact cast_rng _ (Nat.mod_lt _ Pm_pos)
    by_cases hkn : k < n
    · obtain ⟨b, off, rfl, r, a, c', hr, hv, hc, hrc, hcm, hrd⟩ := (H.out.below HB.out).get (k := k) (by rw [HN.out]; exact hkn)
      have HR : Hid (rows[k]? = some r) := hr
      obtain ⟨hrn, hrp⟩ := HG.out r (List.mem_of_getElem? hr)
      have HRp : Hid (∀ v ∈ r, v < Pm) := hrp
      have HRd : Hid (∀ wx : World, Below w.heap.size w wx → RdU wx a r) := by
        intro wx hb
        obtain ⟨b', off', e, r', a', c'', hr', hv', hc', _, _, hrd'⟩ := (H.out.below hb).get (k := k) (by rw [HN.out]; exact hkn)
        cases e
        rw [hr] at hr'; cases hr'
        rw [hv] at hv'; cases hv'
        exact hrd'
      unfold maxLen at hcm
      clear hr hv hrd hrp
      go_wp2
      go_loopw [22] (fun i wr2 => ∃ (j : Nat), j ≤ r.length ∧ i = .int .i64 j ∧ Hid (wr2.ownsRow w.heap.size 25 1 (.slice (some ⟨w.heap.size, 0, none⟩) n n) n (uv (part rows X n k j))) ∧ Hid (Below w.heap.size w wr2)) (fun i _ => r.length - (intOf i).toNat)
      case atStart => exact ⟨0, Nat.zero_le _, rfl, HO, HB⟩
      case round =>
        obtain ⟨j, hj, rfl, HO3, HB3⟩ := hrel
        by_cases hjr : j < r.length
        · obtain ⟨b2, off2, rfl, v, hv, hcv⟩ := (HRd.out _ HB3.out).get hjr
          have hjn : j < n := by omega
          have HV : Hid (coef rows k j = v) := by show _ = _; rw [coef_row HR.out, List.getD, hv]; rfl
          obtain ⟨z, hz⟩ : ∃ z : Int, (v : Int) = z := ⟨_, rfl⟩
          rw [hz] at hcv
          have HZ : Hid ((v : Int) = z) := hz
          have HZr : Hid (0 ≤ z ∧ z < 2305843009213693951) := by rw [← hz]; exact cast_rng v (HRp.out v (List.mem_of_getElem? hv))
          clear hz hv
          obtain ⟨y, hy⟩ : ∃ y : Int, ((S rows X k j % Pm : Nat) : Int) = y := ⟨_, rfl⟩
          have hch : wr.cell? ⟨w.heap.size, j, none⟩ = some (.int .u64 y) := by
            rw [HO3.out.cellAt j (by omega), uv_get, part_get _ _ _ _ _ _ hjn, ← hy]; simp
          have HY : Hid (((S rows X k j % Pm : Nat) : Int) = y) := hy
          have HYr : Hid (0 ≤ y ∧ y < 2305843009213693951) := by rw [← hy]; exact cast_rng _ (Nat.mod_lt _ Pm_pos)
          clear hy
          have hfz := HO3.out.frozenAt j
          have HMr : Hid (0 ≤ imul z q ∧ imul z q < 2305843009213693951) := imul_rng z q
          go_wp2
          go_region_with (first | (go_at_call 14; refine (mul_any _ _ HZr.out.1 HQr.out.1 HZr.out.2 HQr.out.2 _).mono ?_; rintro e w' ⟨rfl, rfl⟩) | (go_at_call 13; refine (add_any _ _ HYr.out.1 HMr.out.1 HYr.out.2 HMr.out.2 _).mono ?_; rintro e w' ⟨rfl, rfl⟩))
          all_goals
            go_wp2
            go_roundw
            case rel =>
              go_light
              exact ⟨j + 1, by omega, by go_num, h_step (wr := wr.drew) (p := X ^ k % Pm) (by exact HO3.out) hjn rfl (by rw [HV.out, ← HY.out, ← HZ.out, HQ.out, imul_nat, iadd_nat]), HB3.out.drew.setCell (p := ⟨w.heap.size, j, none⟩) (Nat.le_refl _) _⟩
            case measure => go_light; simp [intOf]; omega
        · have HZc : Hid (∀ l, r.length ≤ l → coef rows k l = 0) := by
            intro l hl
            rw [coef_row HR.out, List.getD, List.getElem?_eq_none hl]; rfl
          obtain rfl : j = r.length := by omega
          have HO4 : Hid (wr.ownsRow w.heap.size 25 1 (.slice (some ⟨w.heap.size, 0, none⟩) n n) n (uv (part rows X n (k + 1) 0))) := by
            have := HO3.out
            rwa [part_row rows X n k r.length HZc.out] at this
          clear HZc HO3
          go_wp2_with (go_at_call 14; refine (mul_any _ _ HQr.out.1 HXr.out.1 HQr.out.2 HXr.out.2 _).mono ?_; rintro e w' ⟨rfl, hw⟩; obtain rfl : wr = w' := hw.symm)
          go_roundw
          case rel => go_light; exact ⟨k + 1, _, by omega, by go_num, rfl, by show _ = _; rw [HQ.out, HX.out, imul_nat, pow_next], HO4, HB3⟩
          case measure => go_light; simp [intOf]; omega
    · obtain rfl : k = n := by omega
      have HO4 : Hid (wr.ownsRow w.heap.size 25 1 (.slice (some ⟨w.heap.size, 0, none⟩) k k) k (uv (col rows X k))) := by
        have := HO.out
        have e := part_end rows X k
        rw [HN.out] at e
        rwa [e] at this
      go_wp2
      go_ret
      exact ⟨rfl, HO4, HB⟩

end Go.Proofs.Qxb6628493a

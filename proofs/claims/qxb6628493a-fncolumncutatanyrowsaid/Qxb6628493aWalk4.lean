import Derived.Test.Qxb6628493aWalk3
import Derived.OpenShut
namespace Go.Proofs.Qxb6628493a
open Go.ChangeShapes Go.WideShapes Go.ChangeAt
open Go.RowKit
open Go.Lib
set_option linter.unusedVariables false

theorem Try.info28 : (Try.prog.info? 28).map (fun i => (i.zero, i.size, i.bytes)) = some (some (.slice none 0 0), 1, 24) := by kernel_rfl

def nilS : Value := .slice none 0 0
def fillv (vs : List Value) (m k : Nat) : List Value := vs.take k ++ List.replicate (m - k) nilS
theorem fill_zero (vs : List Value) (m : Nat) : fillv vs m 0 = List.replicate m nilS := by simp [fillv]
theorem fill_length (vs : List Value) (m k : Nat) (h : k ≤ vs.length) (hm : k ≤ m) : (fillv vs m k).length = m := by simp [fillv]; omega
theorem fill_next {vs : List Value} {m k : Nat} {v : Value} (h : vs[k]? = some v) (hm : k < m) : (fillv vs m k).set k v = fillv vs m (k + 1) := by
  have hk := (List.getElem?_eq_some_iff.1 h).1
  unfold fillv
  rw [List.take_add_one, h, List.set_append]
  have hl : (vs.take k).length = k := by simp; omega
  rw [hl, if_neg (by omega), Nat.sub_self]
  have : m - k = (m - (k + 1)) + 1 := by omega
  rw [this, List.replicate_succ]
  simp

theorem v_step {wr : World} {base g n cap m k : Nat} {vs : List Value} {v : Value} (h : wr.ownsRow base 28 1 (.slice (some ⟨g, 0, none⟩) n cap) n (fillv vs m k)) (hv : vs[k]? = some v) (hm : k < m) :
    (wr.setCell ⟨g, k, none⟩ v).ownsRow base 28 1 (.slice (some ⟨g, 0, none⟩) n cap) n (fillv vs m (k + 1)) := by
  have := (h.stored k v).1
  rwa [fill_next hv hm] at this

theorem rows_pad {w : World} {A : List Value} {R : List (List Nat)} (hl : A.length = R.length) (h : ∀ (k : Nat) (v : Value) (r : List Nat), A[k]? = some v → R[k]? = some r → RowV w v r) (m : Nat) :
    ∀ (k : Nat) (v : Value) (r : List Nat), (A ++ List.replicate m nilS)[k]? = some v → (R ++ List.replicate m [])[k]? = some r → RowV w v r := by
  intro k v r hv hr
  rw [List.getElem?_append] at hv hr
  rw [← hl] at hr
  by_cases hk : k < A.length
  · rw [if_pos hk] at hv hr; exact h k v r hv hr
  · rw [if_neg hk, List.getElem?_replicate] at hv hr
    split at hv
    · rw [if_pos ‹_›] at hr; cases hv; cases hr; exact RowV.nil w
    · cases hv

theorem argR_owns {w : World} {base g m : Nat} {A : List Value} {R : List (List Nat)} (h : w.ownsRow base 28 1 (.slice (some ⟨g, 0, none⟩) m m) m A) (hl : A.length = R.length) (hr : ∀ (k : Nat) (v : Value) (r : List Nat), A[k]? = some v → R[k]? = some r → RowV w v r) : ArgR w (some ⟨g, 0, none⟩) A R := by
  refine ⟨.inr ⟨g, 0, rfl, fun k v hk => ?_⟩, hl, hr⟩
  have hk' := (List.getElem?_eq_some_iff.1 hk).1
  have hh := h.1
  rw [Nat.zero_add, h.cellAt k (by omega)]; exact hk

def ColR (w : World) (g : Nat) (l : List Nat) : Prop := ∀ (i v : Nat), l[i]? = some v → w.cell? ⟨g, i, none⟩ = some (.int .u64 (v : Int))
theorem ColR.of_owns {w : World} {base g n : Nat} {l : List Nat} (h : w.ownsRow base 25 1 (.slice (some ⟨g, 0, none⟩) n n) n (uv l)) : ColR w g l := by
  intro i v hi
  have hi' := (List.getElem?_eq_some_iff.1 hi).1
  have hl := h.1
  rw [uv_length] at hl
  rw [h.cellAt i (by omega), uv_get, hi]; rfl
theorem ColR.below {w w' : World} {g : Nat} {l : List Nat} (h : ColR w g l) (hb : Below w.heap.size w w') : ColR w' g l := by
  intro i v hi
  have h1 := h i v hi
  rw [hb.cell (by exact block_lt_of_cell h1)]; exact h1

theorem good_pad {rows : List (List Nat)} {n m : Nat} (h : Good rows n) (hm : n ≤ m) (e : Nat) : Good (padOf rows e) m := by
  intro r hr
  unfold padOf at hr
  rcases List.mem_append.1 hr with h' | h'
  · exact ⟨by have := (h r h').1; omega, (h r h').2⟩
  · rw [List.mem_replicate] at h'; rw [h'.2]; simp

theorem made28 {w : World} {base g n : Nat} (h : w.ownsRow base 28 1 (.slice (some ⟨g, 0, none⟩) n n) n (madeCells (Value.slice none 0 0).cells (n * 1)).toList) (vs : List Value) : w.ownsRow base 28 1 (.slice (some ⟨g, 0, none⟩) n n) n (fillv vs n 0) := by
  rw [show (Value.slice none 0 0).cells = #[Value.slice none 0 0] from rfl, Nat.mul_one, toList_madeCells_one] at h
  rw [fill_zero]; exact h

set_option maxRecDepth 100000 in
set_option maxHeartbeats 1000000 in
theorem padded_walk (ao : Option Addr) (n cap : Nat) (vs : List Value) (rows : List (List Nat)) (x y e : Int) (w : World) (h : ArgR w ao vs rows) (hn : rows.length = n) (hcap : n ≤ cap) (hm : cap ≤ maxLen)
    (x0 : 0 ≤ x) (y0 : 0 ≤ y) (e0 : -9223372036854775808 ≤ e ∧ e ≤ 9223372036854775807) :
    Calls Try.prog 4 #[.slice ao n cap, .int .u64 x, .int .u64 y, .int .i64 e] w fun e w' => e = .returned (.bool true) ∧ Below w.heap.size w w' := by
  have H : Hid (ArgR w ao vs rows) := h
  have HN : Hid (rows.length = n) := hn
  clear h hn
  by_cases hgood : (0 ≤ e ∧ e ≤ 65536) ∧ x < 2305843009213693951 ∧ y < 2305843009213693951
  · obtain ⟨⟨he0, he1⟩, hx1, hy1⟩ := hgood
    obtain ⟨E, rfl⟩ : ∃ E : Nat, e = E := ⟨e.toNat, by omega⟩
    obtain ⟨X, hX⟩ : ∃ X : Nat, x = X := ⟨x.toNat, by omega⟩
    obtain ⟨Y, hY⟩ : ∃ Y : Nat, y = Y := ⟨y.toNat, by omega⟩
    have HX : Hid (x = (X : Int)) := hX
    have HY : Hid (y = (Y : Int)) := hY
    have HXp : Hid (X < Pm) := by show X < 2305843009213693951; omega
    have HYp : Hid (Y < Pm) := by show Y < 2305843009213693951; omega
    have HYr : Hid (0 ≤ y ∧ y < 2305843009213693951) := ⟨y0, hy1⟩
    have HXr : Hid (0 ≤ x ∧ x < 2305843009213693951) := ⟨x0, hx1⟩
    have hE0 : ¬ (E : Int) < 0 := by omega
    clear hX hY e0
    go_enter Try.func4, Try.ntmps4
    go_wp2_with fail
    refine (bytes12_any _ _ _ _ _ _ _ _ _ H.out HN.out hcap hm).mono ?_
    rintro e w' ⟨rfl, r, rfl, _⟩
    cases r
    · go_wp2
      go_ret
      exact ⟨rfl, Below.refl _ _⟩
    go_wp2_with fail
    refine (toobig_any _ _ _ _ _ _ H.out HN.out hcap hm).mono ?_
    rintro e w' ⟨rfl, r, rfl, hr⟩
    cases r
    case true =>
      go_wp2
      go_ret
      exact ⟨rfl, Below.refl _ _⟩
    have hn1 : n ≤ 131072 := hr rfl
    clear hr
    go_wp2_with fail
    refine (domain_any _ _ _ _ _ _ H.out HN.out hcap hm).mono ?_
    rintro e w' ⟨rfl, r, rfl, hr⟩
    cases r
    · go_wp2
      go_ret
      exact ⟨rfl, Below.refl _ _⟩
    have HG : Hid (Good rows n) := hr rfl
    clear hr
    obtain ⟨i0, hi, hz0, hz1, hz2⟩ := info_parts Try.info28
    go_wp2_with (at_make; refine wpList_make_full _ rfl _ _ 23 rfl w.heap.size 28 i0 (.slice none 0 0) 1 Try.underlying23 hi hz0 hz1 .i64 .i64 _ _ (n + E) rfl rfl (by omega) (by omega) (by rw [hz2]; omega) (by unfold maxLen; omega) (Nat.le_refl _) ?_; intro w2 hown2 hgrow2)
    have HO2 : Hid (w2.ownsRow w.heap.size 28 1 (.slice (some ⟨w.heap.size, 0, none⟩) (n + E) (n + E)) (n + E) (fillv vs (n + E) 0)) := made28 hown2 vs
    have HB2 : Hid (Below w.heap.size w w2) := (Below.refl _ _).grown hgrow2 (Nat.le_refl _) (by simp)
    clear hown2 hgrow2
    go_loopw [11] (fun i wr => ∃ (k : Nat), k ≤ n ∧ i = .int .i64 k ∧ Hid (wr.ownsRow w.heap.size 28 1 (.slice (some ⟨w.heap.size, 0, none⟩) (n + E) (n + E)) (n + E) (fillv vs (n + E) k)) ∧ Hid (Below w.heap.size w wr)) (fun i _ => n - (intOf i).toNat)
    case atStart => exact ⟨0, Nat.zero_le _, rfl, HO2, HB2⟩
    case round =>
      obtain ⟨k, hk, rfl, HO, HB⟩ := hrel
      have HVl : Hid (vs.length = n) := by have := H.out.len; rw [HN.out] at this; exact this
      by_cases hkn : k < n
      · obtain ⟨b, off, rfl, r, a, c', hr, hv, hc, hrc, hcm, hrd⟩ := (H.out.below HB.out).get (k := k) (by rw [HN.out]; exact hkn)
        have HV : Hid (vs[k]? = some (.slice a r.length c')) := hv
        clear hr hv hrd
        obtain ⟨old, hold⟩ : ∃ old, wr.cell? ⟨w.heap.size, k, none⟩ = some old := by
          rw [HO.out.cellAt k (by omega)]
          exact ⟨_, List.getElem?_eq_getElem (by rw [fill_length _ _ _ (by rw [HVl.out]; omega) (by omega)]; omega)⟩
        have hfz := HO.out.frozenAt k
        go_wp2
        go_roundw
        case rel => go_light; exact ⟨k + 1, by omega, by go_num, v_step HO.out HV.out (by omega), HB.out.setCell (p := ⟨w.heap.size, k, none⟩) (Nat.le_refl _) _⟩
        case measure => go_light; simp [intOf]; omega
      · obtain rfl : n = k := by omega
        obtain ⟨wp, hwp⟩ : ∃ wp, wp = wr := ⟨_, rfl⟩
        subst hwp
        have HRd : Hid (ArgR wp ao vs rows) := H.out.below HB.out
        have HP : Hid (ArgR wp (some ⟨w.heap.size, 0, none⟩) (fillv vs (n + E) n) (padOf rows E)) := by
          have e1 : fillv vs (n + E) n = vs ++ List.replicate E nilS := by
            unfold fillv
            rw [List.take_of_length_le (by rw [HVl.out]; exact Nat.le_refl _), Nat.add_sub_cancel_left]
          have e2 := rows_pad (w := wp) (A := vs) (R := rows) HRd.out.len HRd.out.row E
          have ho := HO.out
          rw [e1] at ho ⊢
          exact argR_owns ho (by unfold padOf; simp [HRd.out.len]) e2
        have HPl : Hid ((padOf rows E).length = n + E) := by show _ = _; unfold padOf; simp [HN.out]
        have HPg : Hid (Good (padOf rows E) (n + E)) := good_pad HG.out (Nat.le_add_right _ _) E
        go_wp2_with fail
        refine (column_any _ _ _ _ _ X _ _ HRd.out HN.out hcap hm HG.out HX.out HXp.out (by omega)).mono ?_
        rintro e w3 ⟨rfl, HO3, HB3⟩
        go_wp2_with fail
        refine (column_any _ _ _ _ _ X _ _ (HP.out.below HB3.out) HPl.out (Nat.le_refl _) (by unfold maxLen; omega) HPg.out HX.out HXp.out (by omega)).mono ?_
        rintro e w4 ⟨rfl, HO4, HB4⟩
        have HCF : Hid (ColR w4 wp.heap.size (col rows X n)) := (ColR.of_owns HO3.out).below HB4.out
        have HCG : Hid (ColR w4 w3.heap.size (col (padOf rows E) X (n + E))) := ColR.of_owns HO4.out
        have HRw : Hid (ArgR w4 ao vs rows) := (HRd.out.below HB3.out).below HB4.out
        have HBw : Hid (Below w.heap.size w w4) := (HB.out.trans (HB3.out.mono HB.out.size)).trans (HB4.out.mono (Nat.le_trans HB.out.size HB3.out.size))
        clear HO3 HB3 HO4 HB4 HRd HP HPl HPg HB HO HVl HO2 HB2
        have HgetF : Hid (∀ l, l < n → w4.cell? ⟨wp.heap.size, l, none⟩ = some (.int .u64 ((S rows X rows.length l % Pm : Nat) : Int))) := fun l hl => HCF.out l _ (col_get rows X n l hl)
        have HgetG : Hid (∀ l, l < n + E → w4.cell? ⟨w3.heap.size, l, none⟩ = some (.int .u64 ((S rows X rows.length l % Pm : Nat) : Int))) := by
          intro l hl
          have := HCG.out l _ (col_get (padOf rows E) X (n + E) l hl)
          rw [show (padOf rows E).length = rows.length + E by unfold padOf; simp, S_pad] at this
          exact this
        have HW0 : Hid (∀ l, n ≤ l → S rows X rows.length l % Pm = 0) := by
          intro l hl
          rw [S_wide rows X rows.length l n (fun r hr => (HG.out r hr).1) hl]; rfl
        clear HCF HCG
        go_wp2
        go_loop [14] (fun i => ∃ (k : Nat), k ≤ n + E ∧ i = .int .i64 k) (fun i => n + E - (intOf i).toNat)
        case atStart => exact ⟨0, Nat.zero_le _, rfl⟩
        case round =>
          obtain ⟨k, hk, rfl⟩ := hrel
          by_cases hkn : k < n + E
          · obtain ⟨v, hv⟩ : ∃ v : Int, ((S rows X rows.length k % Pm : Nat) : Int) = v := ⟨_, rfl⟩
            have hcg := HgetG.out k hkn
            rw [hv] at hcg
            by_cases hkl : k < n
            · have hcf := HgetF.out k hkl
              rw [hv] at hcf
              clear hv
              go_wp2
              go_round
              case rel => go_light; exact ⟨k + 1, by omega, by go_num⟩
              case measure => go_light; simp [intOf]; omega
            · have hv0 : v = 0 := by rw [← hv, HW0.out k (by omega)]; rfl
              rw [hv0] at hcg
              clear hv hv0
              go_wp2
              go_round
              case rel => go_light; exact ⟨k + 1, by omega, by go_num⟩
              case measure => go_light; simp [intOf]; omega
          · go_wp2
            go_loop [16] (fun i => ∃ (k : Nat), k ≤ n ∧ i = .int .i64 k) (fun i => n - (intOf i).toNat)
            case atStart => exact ⟨0, Nat.zero_le _, rfl⟩
            case round =>
              obtain ⟨k3, hk3, rfl⟩ := hrel
              by_cases hk3n : k3 < n
              · obtain ⟨v, hv⟩ : ∃ v : Int, ((S rows X rows.length k3 % Pm : Nat) : Int) = v := ⟨_, rfl⟩
                have hcf := HgetF.out k3 hk3n
                rw [hv] at hcf
                have hvr : v < 2305843009213693951 := by rw [← hv]; exact (cast_rng _ (Nat.mod_lt _ Pm_pos)).2
                clear hv
                go_wp2
                go_round
                case rel => go_light; exact ⟨k3 + 1, by omega, by go_num⟩
                case measure => go_light; simp [intOf]; omega
              · go_wp2
                go_loopw [17, 18] (fun q i wr => ∃ (j : Nat) (b : Int), j ≤ n ∧ i = .int .i64 ((j : Int) - 1) ∧ q = .int .u64 b ∧ Hid (b = ((horner rows X Y n j % Pm : Nat) : Int)) ∧ Hid (∃ m, wr = w4.drewN m)) (fun _ i _ => (intOf i + 1).toNat)
                case atStart => exact ⟨n, 0, Nat.le_refl _, rfl, rfl, by show _ = _; rw [horner_end]; rfl, ⟨0, rfl⟩⟩
                case round =>
                  obtain ⟨j, b, hj, rfl, rfl, HBy, HW⟩ := hrel
                  have HBr : Hid (0 ≤ b ∧ b < 2305843009213693951) := by rw [HBy.out]; exact cast_rng _ (Nat.mod_lt _ Pm_pos)
                  by_cases hj0 : 0 < j
                  · obtain ⟨t, rfl⟩ : ∃ t, j = t + 1 := ⟨j - 1, by omega⟩
                    have e1 : (((t + 1 : Nat) : Int) - 1) = (t : Int) := by omega
                    rw [e1]
                    clear e1
                    obtain ⟨v, hv⟩ : ∃ v : Int, ((S rows X rows.length t % Pm : Nat) : Int) = v := ⟨_, rfl⟩
                    have hcf := HgetF.out t (by omega)
                    rw [hv] at hcf
                    have hcf' : wr.cell? ⟨wp.heap.size, t, none⟩ = some (.int .u64 v) := by
                      obtain ⟨m, e⟩ := HW.out
                      rw [e]; exact hcf
                    have HV : Hid (((S rows X rows.length t % Pm : Nat) : Int) = v) := hv
                    have HVr : Hid (0 ≤ v ∧ v < 2305843009213693951) := by rw [← hv]; exact cast_rng _ (Nat.mod_lt _ Pm_pos)
                    clear hv hcf
                    have HMr : Hid (0 ≤ imul b y ∧ imul b y < 2305843009213693951) := imul_rng b y
                    go_wp2
                    go_quiet ((first | (go_at_call 11; exact Calls.quiet_of_same (zmul_any _ _ HBr.out.1 HYr.out.1 HBr.out.2 HYr.out.2 _)) | (go_at_call 10; exact Calls.quiet_of_same (zadd_any _ _ HMr.out.1 HVr.out.1 HMr.out.2 HVr.out.2 _))))
                    go_wp2
                    go_roundw
                    case rel =>
                      go_light
                      refine ⟨t, _, by omega, rfl, rfl, ?_, ?_⟩
                      · show _ = _
                        rw [horner_step rows X Y n t (by omega), ← horner_mod, HBy.out, HY.out, imul_nat, ← HV.out, iadd_nat]
                      · obtain ⟨m, e⟩ := HW.out
                        exact ⟨m + nq, by rw [e, World.drewN_drewN]⟩
                    case measure => go_light; simp [intOf]
                  · obtain rfl : j = 0 := by omega
                    have HB5 : Hid (Below w.heap.size w wr) := by
                      obtain ⟨m, e⟩ := HW.out
                      rw [e]; exact below_drewN HBw.out m
                    have HR5 : Hid (ArgR wr ao vs rows) := by
                      obtain ⟨m, e⟩ := HW.out
                      rw [e]; exact ⟨HRw.out.rd, HRw.out.len, HRw.out.row⟩
                    obtain ⟨w5, hw5⟩ : ∃ w5, w5 = wr := ⟨_, rfl⟩
                    subst hw5
                    clear HRw HBw HW HgetF HgetG HW0
                    go_wp2
                    go_loop [19, 20, 21] (fun d p i => ∃ (k : Nat) (dz pz : Int), k ≤ n ∧ i = .int .i64 k ∧ d = .int .u64 dz ∧ p = .int .u64 pz ∧ Hid (dz = ((direct rows X Y n k % Pm : Nat) : Int)) ∧ Hid (pz = ((X ^ k % Pm : Nat) : Int))) (fun _ _ i => n - (intOf i).toNat)
                    case atStart => exact ⟨0, 0, 1, Nat.zero_le _, rfl, rfl, rfl, by show _ = _; rfl, by show _ = _; rfl⟩
                    case round =>
                      obtain ⟨k5, dz, pz, hk5, rfl, rfl, rfl, HDz, HPz⟩ := hrel
                      have HPr : Hid (0 ≤ pz ∧ pz < 2305843009213693951) := by rw [HPz.out]; exact cast_rng _ (Nat.mod_lt _ Pm_pos)
                      by_cases hk5n : k5 < n
                      · obtain ⟨bb, off, rfl, r, a, c', hr, hv, hc, hrc, hcm, hrd⟩ := HR5.out.get (k := k5) (by rw [HN.out]; exact hk5n)
                        have HRr : Hid (rows[k5]? = some r) := hr
                        obtain ⟨hrn, hrp⟩ := HG.out r (List.mem_of_getElem? hr)
                        have HRp : Hid (∀ v ∈ r, v < Pm) := hrp
                        have HRd : Hid (RdU w5 a r) := hrd
                        unfold maxLen at hcm
                        clear hr hv hrd hrp
                        go_wp2
                        go_loop [19, 22, 23] (fun d p i => ∃ (l : Nat) (ez qz : Int), l ≤ r.length ∧ i = .int .i64 l ∧ d = .int .u64 ez ∧ p = .int .u64 qz ∧ Hid (ez = (((direct rows X Y n k5 + X ^ k5 * inner rows Y k5 l) % Pm : Nat) : Int)) ∧ Hid (qz = ((Y ^ l % Pm : Nat) : Int))) (fun _ _ i => r.length - (intOf i).toNat)
                        case atStart => exact ⟨0, dz, 1, Nat.zero_le _, rfl, rfl, rfl, by show _ = _; rw [HDz.out]; simp [inner, sum], by show _ = _; rfl⟩
                        case round =>
                          obtain ⟨l, ez, qz, hl, rfl, rfl, rfl, HEz, HQz⟩ := hrel
                          have HEr : Hid (0 ≤ ez ∧ ez < 2305843009213693951) := by rw [HEz.out]; exact cast_rng _ (Nat.mod_lt _ Pm_pos)
                          have HQr : Hid (0 ≤ qz ∧ qz < 2305843009213693951) := by rw [HQz.out]; exact cast_rng _ (Nat.mod_lt _ Pm_pos)
                          by_cases hlr : l < r.length
                          · obtain ⟨b2, off2, rfl, v, hv, hcv⟩ := HRd.out.get hlr
                            have HV : Hid (coef rows k5 l = v) := by show _ = _; rw [coef_row HRr.out, List.getD, hv]; rfl
                            obtain ⟨z, hz⟩ : ∃ z : Int, (v : Int) = z := ⟨_, rfl⟩
                            rw [hz] at hcv
                            have HZ : Hid ((v : Int) = z) := hz
                            have HZr : Hid (0 ≤ z ∧ z < 2305843009213693951) := by rw [← hz]; exact cast_rng v (HRp.out v (List.mem_of_getElem? hv))
                            clear hz hv
                            have HM1 : Hid (0 ≤ imul z pz ∧ imul z pz < 2305843009213693951) := imul_rng z pz
                            have HM2 : Hid (0 ≤ imul (imul z pz) qz ∧ imul (imul z pz) qz < 2305843009213693951) := imul_rng _ qz
                            go_wp2_with fail
                            refine (zmul_any _ _ HZr.out.1 HPr.out.1 HZr.out.2 HPr.out.2 _).mono ?_
                            rintro e w' ⟨rfl, hw⟩
                            obtain rfl : w5 = w' := hw.symm
                            clear hw
                            go_wp2_with fail
                            refine (zmul_any _ _ HM1.out.1 HQr.out.1 HM1.out.2 HQr.out.2 _).mono ?_
                            rintro e w' ⟨rfl, hw⟩
                            obtain rfl : w5 = w' := hw.symm
                            clear hw
                            go_wp2_with fail
                            refine (zadd_any _ _ HEr.out.1 HM2.out.1 HEr.out.2 HM2.out.2 _).mono ?_
                            rintro e w' ⟨rfl, hw⟩
                            obtain rfl : w5 = w' := hw.symm
                            clear hw
                            go_wp2_with fail
                            refine (zmul_any _ _ HQr.out.1 HYr.out.1 HQr.out.2 HYr.out.2 _).mono ?_
                            rintro e w' ⟨rfl, hw⟩
                            obtain rfl : w5 = w' := hw.symm
                            clear hw
                            go_wp2
                            go_round
                            case rel =>
                              go_light
                              refine ⟨l + 1, _, _, by omega, by go_num, rfl, rfl, ?_, ?_⟩
                              · show _ = _
                                rw [HEz.out, ← HZ.out, HPz.out, HQz.out, imul_nat, imul_nat, iadd_nat, direct_step _ _ _ _ X Y k5 l rfl rfl]
                                congr 2
                                unfold inner
                                simp only [sum]
                                rw [HV.out, Nat.mul_add, Nat.add_assoc]
                              · show _ = _
                                rw [HQz.out, HY.out, imul_nat, pow_next]
                            case measure => go_light; simp [intOf]; omega
                          · obtain rfl : l = r.length := by omega
                            have HZc : Hid (∀ l, r.length ≤ l → coef rows k5 l = 0) := by
                              intro l hl
                              rw [coef_row HRr.out, List.getD, List.getElem?_eq_none hl]; rfl
                            go_wp2_with (go_at_call 11; refine (zmul_any _ _ HPr.out.1 HXr.out.1 HPr.out.2 HXr.out.2 _).mono ?_; rintro e w' ⟨rfl, hw⟩; obtain rfl : w5 = w' := hw.symm)
                            go_round
                            case rel =>
                              go_light
                              refine ⟨trivial, ?_⟩
                              (repeat apply Exists.intro)
                              refine ⟨?rr, rfl⟩
                              refine ⟨k5 + 1, _, _, by omega, by go_num, rfl, rfl, ?_, ?_⟩
                              · show _ = _
                                rw [HEz.out, inner_all rows Y k5 r.length n hrn HZc.out]; rfl
                              · show _ = _
                                rw [HPz.out, HX.out, imul_nat, pow_next]
                            case measure => go_light; simp [intOf]; omega
                      · obtain rfl : n = k5 := by omega
                        have heq : (b == dz) = true := by
                          have e1 := HBy.out
                          have e2 := HDz.out
                          rw [value_law] at e1
                          rw [← HN.out] at e2
                          rw [HN.out] at e1
                          rw [HN.out] at e2
                          rw [e1, e2]; simp
                        go_wp2
                        go_ret
                        exact ⟨rfl, HB5.out⟩
  · by_cases he : 0 ≤ e ∧ e ≤ 65536
    · obtain ⟨he0, he1⟩ := he
      have hE0 : ¬ e < 0 := by omega
      by_cases hx1 : x < 2305843009213693951
      · have hy1 : ¬ y < 2305843009213693951 := by omega
        go_enter Try.func4, Try.ntmps4
        go_wp2_with (first
          | (go_at_call 12; refine (bytes12_any _ _ _ _ _ _ _ _ _ H.out HN.out hcap hm).mono ?_; rintro e w' ⟨rfl, r, rfl, _⟩)
          | (go_at_call 6; refine (toobig_any _ _ _ _ _ _ H.out HN.out hcap hm).mono ?_; rintro e w' ⟨rfl, r2, rfl, _⟩))
        all_goals (go_ret; exact ⟨rfl, Below.refl _ _⟩)
      · go_enter Try.func4, Try.ntmps4
        go_wp2_with (first
          | (go_at_call 12; refine (bytes12_any _ _ _ _ _ _ _ _ _ H.out HN.out hcap hm).mono ?_; rintro e w' ⟨rfl, r, rfl, _⟩)
          | (go_at_call 6; refine (toobig_any _ _ _ _ _ _ H.out HN.out hcap hm).mono ?_; rintro e w' ⟨rfl, r2, rfl, _⟩))
        all_goals (go_ret; exact ⟨rfl, Below.refl _ _⟩)
    · by_cases he2 : e < 0
      · go_enter Try.func4, Try.ntmps4
        go_wp2_with (first
          | (go_at_call 12; refine (bytes12_any _ _ _ _ _ _ _ _ _ H.out HN.out hcap hm).mono ?_; rintro e w' ⟨rfl, r, rfl, _⟩)
          | (go_at_call 6; refine (toobig_any _ _ _ _ _ _ H.out HN.out hcap hm).mono ?_; rintro e w' ⟨rfl, r2, rfl, _⟩))
        all_goals (go_ret; exact ⟨rfl, Below.refl _ _⟩)
      · have he3 : ¬ e ≤ 65536 := by omega
        go_enter Try.func4, Try.ntmps4
        go_wp2_with (first
          | (go_at_call 12; refine (bytes12_any _ _ _ _ _ _ _ _ _ H.out HN.out hcap hm).mono ?_; rintro e w' ⟨rfl, r, rfl, _⟩)
          | (go_at_call 6; refine (toobig_any _ _ _ _ _ _ H.out HN.out hcap hm).mono ?_; rintro e w' ⟨rfl, r2, rfl, _⟩))
        all_goals (go_ret; exact ⟨rfl, Below.refl _ _⟩)

end Go.Proofs.Qxb6628493a

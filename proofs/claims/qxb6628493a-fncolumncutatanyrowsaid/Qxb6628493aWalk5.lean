import Derived.Test.Qxb6628493aWalk4
namespace Go.Proofs.Qxb6628493a
open Go.ChangeShapes Go.WideShapes Go.ChangeAt
open Go.RowKit
open Go.Lib
set_option linter.unusedVariables false

theorem good_sub {rows sub : List (List Nat)} {n : Nat} (h : Good rows n) (hs : ∀ r ∈ sub, r ∈ rows ∨ r = []) : Good sub n := by
  intro r hr
  rcases hs r hr with h' | h'
  · exact h r h'
  · subst h'; simp
theorem good_lower {rows : List (List Nat)} {n : Nat} (h : Good rows n) (c : Nat) : Good (lowerOf rows c) n :=
  good_sub h fun r hr => by
    unfold lowerOf at hr
    rcases List.mem_append.1 hr with h' | h'
    · exact .inl (List.mem_of_mem_take h')
    · exact .inr (List.mem_replicate.1 h').2
theorem good_upper {rows : List (List Nat)} {n : Nat} (h : Good rows n) (c : Nat) : Good (upperOf rows c) n :=
  good_sub h fun r hr => by
    unfold upperOf at hr
    rcases List.mem_append.1 hr with h' | h'
    · exact .inl (List.mem_of_mem_drop h')
    · exact .inr (List.mem_replicate.1 h').2

theorem row_store {w : World} {base e g g' n n' cap cap' j : Nat} {xs ys : List Value} {u : Value} (h : w.ownsRow base e 1 (.slice (some ⟨g', 0, none⟩) n' cap') n' ys) (h' : w.ownsRow base e 1 (.slice (some ⟨g, 0, none⟩) n cap) n xs) (hne : g' ≠ g) :
    (w.setCell ⟨g, j, none⟩ u).ownsRow base e 1 (.slice (some ⟨g', 0, none⟩) n' cap') n' ys :=
  h.kept (h'.stored j u).2 (.inr (by simp [Value.ownBlock]; exact hne))

theorem coef_lt {rows : List (List Nat)} {n : Nat} (h : Good rows n) (k l : Nat) : coef rows k l < Pm := by
  unfold coef
  by_cases hk : k < rows.length
  · have e : rows.getD k [] = rows[k] := by simp [List.getD, List.getElem?_eq_getElem hk]
    rw [e]
    by_cases hl : l < rows[k].length
    · have e2 : rows[k].getD l 0 = rows[k][l] := by simp [List.getD, List.getElem?_eq_getElem hl]
      rw [e2]; exact (h _ (List.getElem_mem hk)).2 _ (List.getElem_mem hl)
    · rw [List.getD, List.getElem?_eq_none (by omega)]; exact Pm_pos
  · have e : rows.getD k [] = [] := by simp [List.getD, List.getElem?_eq_none (show rows.length ≤ k by omega)]
    rw [e]; exact Pm_pos

set_option maxRecDepth 100000 in
set_option maxHeartbeats 1000000 in
theorem cut_walk (ao : Option Addr) (n cap : Nat) (vs : List Value) (rows : List (List Nat)) (x c : Int) (w : World) (h : ArgR w ao vs rows) (hn : rows.length = n) (hcap : n ≤ cap) (hm : cap ≤ maxLen)
    (x0 : 0 ≤ x) (c0 : -9223372036854775808 ≤ c ∧ c ≤ 9223372036854775807) :
    Calls Try.prog 3 #[.slice ao n cap, .int .u64 x, .int .i64 c] w fun e w' => e = .returned (.bool true) ∧ Below w.heap.size w w' := by
  have H : Hid (ArgR w ao vs rows) := h
  have HN : Hid (rows.length = n) := hn
  have HVl : Hid (vs.length = n) := by have := h.len; rw [hn] at this; exact this
  have hmx : n ≤ 9223372036854775807 := by unfold maxLen at hm; omega
  clear h hn
  by_cases hgood : (0 ≤ c ∧ c ≤ n) ∧ x < 2305843009213693951
  · obtain ⟨⟨hc0, hc1⟩, hx1⟩ := hgood
    obtain ⟨C, rfl⟩ : ∃ C : Nat, c = C := ⟨c.toNat, by omega⟩
    obtain ⟨X, hX⟩ : ∃ X : Nat, x = X := ⟨x.toNat, by omega⟩
    have HX : Hid (x = (X : Int)) := hX
    have HXp : Hid (X < Pm) := by show X < 2305843009213693951; omega
    have HXr : Hid (0 ≤ x ∧ x < 2305843009213693951) := ⟨x0, hx1⟩
    have hCn : C ≤ n := by omega
    have hC0 : ¬ (C : Int) < 0 := by omega
    clear hX c0
    go_enter Try.func3, Try.ntmps3
    go_wp2_with fail
    refine (bytes5_any _ _ _ _ _ _ _ _ H.out HN.out hcap hm).mono ?_
    rintro e w' ⟨rfl, r, rfl, _⟩
    cases r
    · go_wp2
      go_ret
      exact ⟨rfl, Below.refl _ _⟩
    go_wp2_with fail
    refine (toobig_any _ _ _ _ _ _ H.out HN.out hcap hm).mono ?_
    rintro e w' ⟨rfl, r, rfl, hr⟩
    cases r
    case true =>
      go_wp2
      go_ret
      exact ⟨rfl, Below.refl _ _⟩
    have hn1 : n ≤ 131072 := hr rfl
    clear hr
    go_wp2_with fail
    refine (domain_any _ _ _ _ _ _ H.out HN.out hcap hm).mono ?_
    rintro e w' ⟨rfl, r, rfl, hr⟩
    cases r
    · go_wp2
      go_ret
      exact ⟨rfl, Below.refl _ _⟩
    have HG : Hid (Good rows n) := hr rfl
    clear hr
    obtain ⟨i0, hi, hz0, hz1, hz2⟩ := info_parts Try.info28
    have tok1 : True := trivial
    go_wp2_with (first
      | (at_make; have _t := tok1; refine wpList_make_full _ rfl (.tmp 42) (.tmp 42) 23 rfl w.heap.size 28 i0 (.slice none 0 0) 1 Try.underlying23 hi hz0 hz1 .i64 .i64 _ _ n rfl rfl rfl rfl (by rw [hz2]; omega) (by unfold maxLen; omega) (Nat.le_refl _) ?_; intro w2 hown2 hgrow2; have HO2 : Hid (w2.ownsRow w.heap.size 28 1 (.slice (some ⟨w.heap.size, 0, none⟩) n n) n (fillv vs n 0)) := made28 hown2 vs; have HB2 : Hid (Below w.heap.size w w2) := (Below.refl _ _).grown hgrow2 (Nat.le_refl _) (by simp); clear hown2 hgrow2 tok1 _t)
      | (at_make; refine wpList_make_full _ rfl (.tmp 44) (.tmp 44) 23 rfl w.heap.size 28 i0 (.slice none 0 0) 1 Try.underlying23 hi hz0 hz1 .i64 .i64 _ _ n rfl rfl rfl rfl (by rw [hz2]; omega) (by unfold maxLen; omega) HB2.out.size ?_; intro w3 hown3 hgrow3))
    have HU3 : Hid (w3.ownsRow w.heap.size 28 1 (.slice (some ⟨w2.heap.size, 0, none⟩) n n) n (fillv (vs.drop C) n 0)) := made28 hown3 (vs.drop C)
    have HL3 : Hid (w3.ownsRow w.heap.size 28 1 (.slice (some ⟨w.heap.size, 0, none⟩) n n) n (fillv vs n 0)) := HO2.out.kept hgrow3 (.inr (by simp [Value.ownBlock]))
    have hg12 : w.heap.size < w2.heap.size := (HO2.out.lt w.heap.size rfl).2
    have HB3 : Hid (Below w.heap.size w w3) := HB2.out.grown hgrow3 HB2.out.size (by simp)
    obtain ⟨G, hG⟩ : ∃ G, w2.heap.size = G := ⟨_, rfl⟩
    rw [hG] at hg12
    rw [hG] at HU3
    rw [hG]
    clear hown3 hgrow3 HO2 HB2 hG
    go_loopw [10] (fun i wr => ∃ (k : Nat), k ≤ C ∧ i = .int .i64 k ∧ Hid (wr.ownsRow w.heap.size 28 1 (.slice (some ⟨w.heap.size, 0, none⟩) n n) n (fillv vs n k)) ∧ Hid (wr.ownsRow w.heap.size 28 1 (.slice (some ⟨G, 0, none⟩) n n) n (fillv (vs.drop C) n 0)) ∧ Hid (Below w.heap.size w wr)) (fun i _ => C - (intOf i).toNat)
    case atStart => exact ⟨0, Nat.zero_le _, rfl, HL3, HU3, HB3⟩
    case round =>
      obtain ⟨k, hk, rfl, HL, HU, HB⟩ := hrel
      by_cases hkC : k < C
      · obtain ⟨b, off, rfl, r, a, c', hr, hv, hc, hrc, hcm, hrd⟩ := (H.out.below HB.out).get (k := k) (by rw [HN.out]; omega)
        have HV : Hid (vs[k]? = some (.slice a r.length c')) := hv
        clear hr hv hrd
        obtain ⟨old, hold⟩ : ∃ old, wr.cell? ⟨w.heap.size, k, none⟩ = some old := by
          rw [HL.out.cellAt k (by omega)]
          exact ⟨_, List.getElem?_eq_getElem (by rw [fill_length _ _ _ (by rw [HVl.out]; omega) (by omega)]; omega)⟩
        have hfz := HL.out.frozenAt k
        go_wp2
        go_roundw
        case rel => go_light; exact ⟨k + 1, by omega, by go_num, v_step HL.out HV.out (by omega), row_store HU.out HL.out (by omega), HB.out.setCell (p := ⟨w.heap.size, k, none⟩) (Nat.le_refl _) _⟩
        case measure => go_light; simp [intOf]; omega
      · obtain rfl : C = k := by omega
        clear HL3 HU3 HB3
        go_wp2
        go_loopw [11] (fun i wr => ∃ (k : Nat), C ≤ k ∧ k ≤ n ∧ i = .int .i64 k ∧ Hid (wr.ownsRow w.heap.size 28 1 (.slice (some ⟨w.heap.size, 0, none⟩) n n) n (fillv vs n C)) ∧ Hid (wr.ownsRow w.heap.size 28 1 (.slice (some ⟨G, 0, none⟩) n n) n (fillv (vs.drop C) n (k - C))) ∧ Hid (Below w.heap.size w wr)) (fun i _ => n - (intOf i).toNat)
        case atStart => exact ⟨C, Nat.le_refl _, hCn, rfl, HL, by rw [Nat.sub_self]; exact HU, HB⟩
        case round =>
          obtain ⟨k2, hk2C, hk2, rfl, HL2, HU2, HB2⟩ := hrel
          by_cases hk2n : k2 < n
          · obtain ⟨b, off, rfl, r, a, c', hr, hv, hc, hrc, hcm, hrd⟩ := (H.out.below HB2.out).get (k := k2) (by rw [HN.out]; omega)
            have HV : Hid ((vs.drop C)[k2 - C]? = some (.slice a r.length c')) := by
              show _ = _
              rw [List.getElem?_drop, Nat.add_sub_cancel' hk2C]; exact hv
            clear hr hv hrd
            obtain ⟨old, hold⟩ : ∃ old, wr.cell? ⟨G, k2 - C, none⟩ = some old := by
              rw [HU2.out.cellAt (k2 - C) (by omega)]
              exact ⟨_, List.getElem?_eq_getElem (by rw [fill_length _ _ _ (by rw [List.length_drop, HVl.out]; omega) (by omega)]; omega)⟩
            have hfz := HU2.out.frozenAt (k2 - C)
            go_wp2
            go_roundw
            case rel =>
              go_light
              refine ⟨k2 + 1, by omega, by omega, by go_num, row_store HL2.out HU2.out (by omega), ?_, HB2.out.setCell (p := ⟨G, k2 - C, none⟩) (by show _ ≤ G; omega) _⟩
              rw [show k2 + 1 - C = (k2 - C) + 1 by omega]
              exact v_step HU2.out HV.out (by omega)
            case measure => go_light; simp [intOf]; omega
          · obtain rfl : n = k2 := by omega
            obtain ⟨wp, hwp⟩ : ∃ wp, wp = wr := ⟨_, rfl⟩
            subst hwp
            clear HL HU HB
            have HR : Hid (ArgR wp ao vs rows) := H.out.below HB2.out
            have HCr : Hid (C ≤ rows.length) := by show _ ≤ _; rw [HN.out]; exact hCn
            have HPL : Hid (ArgR wp (some ⟨w.heap.size, 0, none⟩) (fillv vs n C) (lowerOf rows C)) := by
              refine argR_owns HL2.out (by rw [fill_length _ _ _ (by rw [HVl.out]; exact hCn) hCn, lower_length _ _ HCr.out, HN.out]) ?_
              have e2 := rows_pad (w := wp) (A := vs.take C) (R := rows.take C) (by simp [HVl.out, HN.out]) (fun k v r hv hr => by
                rw [List.getElem?_take] at hv hr
                split at hv
                · rw [if_pos ‹_›] at hr; exact HR.out.row k v r hv hr
                · cases hv) (n - C)
              unfold fillv lowerOf
              rw [HN.out]; exact e2
            have HPU : Hid (ArgR wp (some ⟨G, 0, none⟩) (fillv (vs.drop C) n (n - C)) (upperOf rows C)) := by
              refine argR_owns HU2.out (by rw [fill_length _ _ _ (by rw [List.length_drop, HVl.out]; exact Nat.le_refl _) (by omega), upper_length _ _ HCr.out, HN.out]) ?_
              have e2 := rows_pad (w := wp) (A := vs.drop C) (R := rows.drop C) (by simp [HVl.out, HN.out]) (fun k v r hv hr => by
                rw [List.getElem?_drop] at hv hr
                exact HR.out.row _ v r hv hr) C
              unfold fillv upperOf
              rw [List.take_of_length_le (by rw [List.length_drop, HVl.out]; exact Nat.le_refl _), show n - (n - C) = C by omega]; exact e2
            have HLl : Hid ((lowerOf rows C).length = n) := by show _ = _; rw [lower_length _ _ HCr.out, HN.out]
            have HUl : Hid ((upperOf rows C).length = n) := by show _ = _; rw [upper_length _ _ HCr.out, HN.out]
            go_wp2_with fail
            refine (column_any _ _ _ _ _ X _ _ HR.out HN.out hcap hm HG.out HX.out HXp.out (by omega)).mono ?_
            rintro e w4 ⟨rfl, HO4, HB4⟩
            go_wp2_with fail
            refine (column_any _ _ _ _ _ X _ _ (HPL.out.below HB4.out) HLl.out (Nat.le_refl _) (by unfold maxLen; omega) (good_lower HG.out C) HX.out HXp.out (by omega)).mono ?_
            rintro e w5 ⟨rfl, HO5, HB5⟩
            go_wp2_with fail
            refine (column_any _ _ _ _ _ X _ _ ((HPU.out.below HB4.out).below HB5.out) HUl.out (Nat.le_refl _) (by unfold maxLen; omega) (good_upper HG.out C) HX.out HXp.out (by omega)).mono ?_
            rintro e w6 ⟨rfl, HO6, HB6⟩
            have HCW : Hid (ColR w6 wp.heap.size (col rows X n)) := ((ColR.of_owns HO4.out).below HB5.out).below HB6.out
            have HCL : Hid (ColR w6 w4.heap.size (col (lowerOf rows C) X n)) := (ColR.of_owns HO5.out).below HB6.out
            have HCU : Hid (ColR w6 w5.heap.size (col (upperOf rows C) X n)) := ColR.of_owns HO6.out
            have HRw : Hid (ArgR w6 ao vs rows) := ((HR.out.below HB4.out).below HB5.out).below HB6.out
            have hs1 := HB2.out.size
            have hs2 := HB4.out.size
            have hs3 := HB5.out.size
            have HBw : Hid (Below w.heap.size w w6) := ((HB2.out.trans (HB4.out.mono hs1)).trans (HB5.out.mono (by omega))).trans (HB6.out.mono (by omega))
            clear HO4 HB4 HO5 HB5 HO6 HB6 HR HPL HPU HLl HUl HL2 HU2 HB2 hs1 hs2 hs3
            have HgW : Hid (∀ l, l < n → w6.cell? ⟨wp.heap.size, l, none⟩ = some (.int .u64 ((S rows X rows.length l % Pm : Nat) : Int))) := fun l hl => HCW.out l _ (col_get rows X n l hl)
            have HgL : Hid (∀ l, l < n → w6.cell? ⟨w4.heap.size, l, none⟩ = some (.int .u64 ((S (lowerOf rows C) X rows.length l % Pm : Nat) : Int))) := fun l hl => by
              have := HCL.out l _ (col_get (lowerOf rows C) X n l hl)
              rwa [lower_length _ _ HCr.out] at this
            have HgU : Hid (∀ l, l < n → w6.cell? ⟨w5.heap.size, l, none⟩ = some (.int .u64 ((S (upperOf rows C) X rows.length l % Pm : Nat) : Int))) := fun l hl => by
              have := HCU.out l _ (col_get (upperOf rows C) X n l hl)
              rwa [upper_length _ _ HCr.out] at this
            clear HCW HCL HCU
            go_wp2_with fail
            refine (pow_any X C x HX.out HXp.out (by omega) _).mono ?_
            rintro e w' ⟨p, rfl, HP, hw⟩
            obtain rfl : w6 = w' := hw.symm
            clear hw
            have HPr : Hid (0 ≤ p ∧ p < 2305843009213693951) := by rw [HP.out]; exact cast_rng _ (Nat.mod_lt _ Pm_pos)
            go_wp2
            go_loopw [16] (fun i wr => ∃ (k : Nat), k ≤ n ∧ i = .int .i64 k ∧ Hid (∃ m, wr = w6.drewN m)) (fun i _ => n - (intOf i).toNat)
            case atStart => exact ⟨0, Nat.zero_le _, rfl, ⟨0, rfl⟩⟩
            case round =>
              obtain ⟨l, hl, rfl, HW⟩ := hrel
              by_cases hln : l < n
              · obtain ⟨A, hA⟩ : ∃ v : Int, ((S (lowerOf rows C) X rows.length l % Pm : Nat) : Int) = v := ⟨_, rfl⟩
                obtain ⟨B, hB⟩ : ∃ v : Int, ((S (upperOf rows C) X rows.length l % Pm : Nat) : Int) = v := ⟨_, rfl⟩
                obtain ⟨V, hV⟩ : ∃ v : Int, ((S rows X rows.length l % Pm : Nat) : Int) = v := ⟨_, rfl⟩
                have hcW : wr.cell? ⟨wp.heap.size, l, none⟩ = some (.int .u64 V) := by
                  obtain ⟨m, e⟩ := HW.out
                  rw [e, ← hV]; exact HgW.out l hln
                have hcL : wr.cell? ⟨w4.heap.size, l, none⟩ = some (.int .u64 A) := by
                  obtain ⟨m, e⟩ := HW.out
                  rw [e, ← hA]; exact HgL.out l hln
                have hcU : wr.cell? ⟨w5.heap.size, l, none⟩ = some (.int .u64 B) := by
                  obtain ⟨m, e⟩ := HW.out
                  rw [e, ← hB]; exact HgU.out l hln
                have hAr : 0 ≤ A ∧ A < 2305843009213693951 := by rw [← hA]; exact cast_rng _ (Nat.mod_lt _ Pm_pos)
                have hBr : 0 ≤ B ∧ B < 2305843009213693951 := by rw [← hB]; exact cast_rng _ (Nat.mod_lt _ Pm_pos)
                have HAr : Hid (0 ≤ A ∧ A < 2305843009213693951) := hAr
                have HBr : Hid (0 ≤ B ∧ B < 2305843009213693951) := hBr
                have hA1 : decide (2305843009213693951 ≤ A) = false := by simp; omega
                have hB1 : decide (2305843009213693951 ≤ B) = false := by simp; omega
                have HE : Hid (iadd A (imul p B) = V) := by
                  show _ = _
                  rw [← hA, ← hB, HP.out, imul_nat, iadd_nat, cut_law rows X C l _ HCr.out rfl, hV]
                have hne : (V != iadd A (imul p B)) = false := by rw [HE.out]; simp
                have HMr : Hid (0 ≤ imul p B ∧ imul p B < 2305843009213693951) := imul_rng p B
                clear hA hB hV hAr hBr
                go_wp2
                go_quiet ((first | (go_at_call 11; exact Calls.quiet_of_same (zmul_any _ _ HPr.out.1 HBr.out.1 HPr.out.2 HBr.out.2 _)) | (go_at_call 10; exact Calls.quiet_of_same (zadd_any _ _ HAr.out.1 HMr.out.1 HAr.out.2 HMr.out.2 _))))
                go_wp2
                go_roundw
                case rel =>
                  go_light
                  refine ⟨l + 1, by omega, by go_num, ?_⟩
                  obtain ⟨m, e⟩ := HW.out
                  exact ⟨m + nq, by rw [e, World.drewN_drewN]⟩
                case measure => go_light; simp [intOf]; omega
              · obtain ⟨w7, hw7⟩ : ∃ w7, w7 = wr := ⟨_, rfl⟩
                subst hw7
                have HB7 : Hid (Below w.heap.size w w7) := by
                  obtain ⟨m, e⟩ := HW.out
                  rw [e]; exact below_drewN HBw.out m
                have HR7 : Hid (ArgR w7 ao vs rows) := by
                  obtain ⟨m, e⟩ := HW.out
                  rw [e]; exact ⟨HRw.out.rd, HRw.out.len, HRw.out.row⟩
                clear HRw HBw HW HgW HgL HgU HP HPr
                by_cases hn0 : 0 < n
                · go_wp2_with fail
                  refine (column_any _ _ _ _ _ 0 _ _ HR7.out HN.out hcap hm HG.out rfl Pm_pos (by omega)).mono ?_
                  rintro e w8 ⟨rfl, HO8, HB8⟩
                  have HC8 : Hid (ColR w8 w7.heap.size (col rows 0 n)) := ColR.of_owns HO8.out
                  have HB9 : Hid (Below w.heap.size w w8) := HB7.out.trans (HB8.out.mono HB7.out.size)
                  have HR8 : Hid (ArgR w8 ao vs rows) := HR7.out.below HB8.out
                  have Hg8 : Hid (∀ l, l < n → w8.cell? ⟨w7.heap.size, l, none⟩ = some (.int .u64 ((coef rows 0 l : Nat) : Int))) := fun l hl => by
                    have := HC8.out l _ (col_get rows 0 n l hl)
                    obtain ⟨n', hn'⟩ : ∃ n', n = n' + 1 := ⟨n - 1, by omega⟩
                    rw [HN.out, hn', S_at0, Nat.mod_eq_of_lt (coef_lt HG.out 0 l)] at this
                    exact this
                  obtain ⟨b, off, rfl, r, a, c', hr, hv, hc, hrc, hcm, hrd⟩ := HR8.out.get (k := 0) (by rw [HN.out]; exact hn0)
                  have HRr : Hid (rows[0]? = some r) := hr
                  have HRd : Hid (RdU w8 a r) := hrd
                  have hc' : w8.cell? ⟨b, off, none⟩ = some (.slice a r.length c') := hc
                  unfold maxLen at hcm
                  clear hr hv hrd HO8 HB8 HC8 hc
                  go_wp2
                  go_loop [19] (fun i => ∃ (k : Nat), k ≤ n ∧ i = .int .i64 k) (fun i => n - (intOf i).toNat)
                  case atStart => exact ⟨0, Nat.zero_le _, rfl⟩
                  case round =>
                    obtain ⟨q, hq, rfl⟩ := hrel
                    by_cases hqn : q < n
                    · have hcz := Hg8.out q hqn
                      by_cases hqr : q < r.length
                      · obtain ⟨b2, off2, rfl, v, hv, hcv⟩ := HRd.out.get hqr
                        have e1 : coef rows 0 q = v := by rw [coef_row HRr.out, List.getD, hv]; rfl
                        rw [e1] at hcz
                        obtain ⟨z, hz⟩ : ∃ z : Int, (v : Int) = z := ⟨_, rfl⟩
                        rw [hz] at hcz hcv
                        clear hz hv e1
                        go_wp2
                        go_round
                        case rel => go_light; exact ⟨q + 1, by omega, by go_num⟩
                        case measure => go_light; simp [intOf]; omega
                      · have e1 : coef rows 0 q = 0 := by rw [coef_row HRr.out, List.getD, List.getElem?_eq_none (by omega)]; rfl
                        rw [e1] at hcz
                        have hcz' : w8.cell? ⟨w7.heap.size, q, none⟩ = some (.int .u64 0) := hcz
                        clear e1 hcz
                        go_wp2
                        go_round
                        case rel => go_light; exact ⟨q + 1, by omega, by go_num⟩
                        case measure => go_light; simp [intOf]; omega
                    · go_wp2
                      go_ret
                      exact ⟨rfl, HB9.out⟩
                · go_wp2
                  go_ret
                  exact ⟨rfl, HB7.out⟩
  · by_cases hcr : 0 ≤ c ∧ c ≤ n
    · obtain ⟨hc0, hc1⟩ := hcr
      have hC0 : ¬ c < 0 := by omega
      have hx1 : ¬ x < 2305843009213693951 := by omega
      go_enter Try.func3, Try.ntmps3
      go_wp2_with (first
          | (go_at_call 5; refine (bytes5_any _ _ _ _ _ _ _ _ H.out HN.out hcap hm).mono ?_; rintro e w' ⟨rfl, r, rfl, _⟩)
          | (go_at_call 6; refine (toobig_any _ _ _ _ _ _ H.out HN.out hcap hm).mono ?_; rintro e w' ⟨rfl, r2, rfl, _⟩))
      all_goals (go_ret; exact ⟨rfl, Below.refl _ _⟩)
    · by_cases hc2 : c < 0
      · go_enter Try.func3, Try.ntmps3
        go_wp2_with (first
          | (go_at_call 5; refine (bytes5_any _ _ _ _ _ _ _ _ H.out HN.out hcap hm).mono ?_; rintro e w' ⟨rfl, r, rfl, _⟩)
          | (go_at_call 6; refine (toobig_any _ _ _ _ _ _ H.out HN.out hcap hm).mono ?_; rintro e w' ⟨rfl, r2, rfl, _⟩))
        all_goals (go_ret; exact ⟨rfl, Below.refl _ _⟩)
      · have hc3 : ¬ c ≤ n := by omega
        go_enter Try.func3, Try.ntmps3
        go_wp2_with (first
          | (go_at_call 5; refine (bytes5_any _ _ _ _ _ _ _ _ H.out HN.out hcap hm).mono ?_; rintro e w' ⟨rfl, r, rfl, _⟩)
          | (go_at_call 6; refine (toobig_any _ _ _ _ _ _ H.out HN.out hcap hm).mono ?_; rintro e w' ⟨rfl, r2, rfl, _⟩))
        all_goals (go_ret; exact ⟨rfl, Below.refl _ _⟩)

end Go.Proofs.Qxb6628493a

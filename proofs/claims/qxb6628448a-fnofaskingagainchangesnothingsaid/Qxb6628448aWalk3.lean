import Derived.Test.Qxb6628448aWalk2
namespace Go.Proofs.Qxb6628448a
open Go.ChangeShapes Go.WideShapes Go.ChangeAt
open Go.RowKit
open Go.Maps
open Go.WideMaps
set_option linter.unusedVariables false

theorem Try.info9 : (Try.prog.info? 9).map (fun i => (i.zero, i.size, i.bytes)) = some (some (.string ByteArray.empty), 1, 16) := by kernel_rfl

def sv (l : List ByteArray) : List Value := l.map Value.string
theorem sv_length (l : List ByteArray) : (sv l).length = l.length := by simp [sv]
theorem sv_get (l : List ByteArray) (i : Nat) : (sv l)[i]? = (l[i]?).map Value.string := by simp [sv]

theorem owns_kept {w w' : World} {sb base e g n cap : Nat} {xs : List Value} (h : w.ownsRow base e 1 (.slice (some ⟨g, 0, none⟩) n cap) n xs) (hk : Kept sb w w') (hg : g ≠ sb) : w'.ownsRow base e 1 (.slice (some ⟨g, 0, none⟩) n cap) n xs := by
  obtain ⟨hl, h | ⟨g', cap', cur, hv, hb, hh, r⟩⟩ := h
  · cases h.1
  · cases hv
    exact ⟨hl, .inr ⟨g, cap, cur, rfl, hb, hk.rows g cur e (0, 0) hg hh, r⟩⟩

theorem owns_row {w : World} {base e g n cap : Nat} {xs : List Value} (h : w.ownsRow base e 1 (.slice (some ⟨g, 0, none⟩) n cap) n xs) : ∃ cs t fr, w.heap[g]? = some (.cells cs t fr) := by
  obtain ⟨hl, h | ⟨g', cap', cur, hv, hb, hh, r⟩⟩ := h
  · cases h.1
  · cases hv
    exact ⟨_, _, _, hh⟩

theorem owns_str {w : World} {base g n cap : Nat} {S : List ByteArray} (h : w.ownsRow base 9 1 (.slice (some ⟨g, 0, none⟩) n cap) n (sv S)) {j : Nat} {t : ByteArray} (ht : S[j]? = some t) : w.cell? ⟨g, j, none⟩ = some (.string t) := by
  have hj := (List.getElem?_eq_some_iff.1 ht).1
  have hl := h.1
  rw [sv_length] at hl
  rw [h.cellAt j (by omega), sv_get, ht]; rfl

theorem toList_nm (s : ByteArray) : s.toList = nm s := ByteArray.toList_eq s

theorem idx_first {l : List Nm} {x : Nm} {j : Nat} (h : l[j]? = some x) (hn : ∀ (q : Nat) (t : Nm), q < j → l[q]? = some t → t ≠ x) : l.idxOf x = j := by
  induction l generalizing j with
  | nil => simp at h
  | cons a l ih =>
    cases j with
    | zero => simp at h; subst h; simp
    | succ j =>
      have ha : a ≠ x := hn 0 a (by omega) (by simp)
      rw [List.idxOf_cons]
      simp only [beq_eq_false_iff_ne.2 ha, cond_false]
      rw [ih (j := j) (by simpa using h) (fun q t hq ht => hn (q + 1) t (by omega) (by simpa using ht))]

theorem no_mem {S : List ByteArray} {x : Nm} (hn : ∀ (q : Nat) (t : ByteArray), q < S.length → S[q]? = some t → nm t ≠ x) : ¬ x ∈ S.map nm := by
  intro h
  obtain ⟨t, ht, rfl⟩ := List.mem_map.1 h
  obtain ⟨q, hq, rfl⟩ := List.mem_iff_getElem.1 ht
  exact hn q _ hq (by simp [hq]) rfl

set_option maxRecDepth 100000 in
set_option maxHeartbeats 1000000 in
theorem first_walk (ao : Option Addr) (len cap : Nat) (ss : List ByteArray) (w : World) (h : ArgS w ao len ss) (hcap : len ≤ cap) (hm : cap ≤ maxLen) :
    Calls Try.prog 3 #[.slice ao len cap] w fun e w' => e = .returned (.bool true) ∧ Below w.heap.size w w' := by
  have H : Hid (ArgS w ao len ss) := h
  clear h
  by_cases hl : len ≤ 4096
  · go_enter Try.func3, Try.ntmps3
    go_wp2_with (go_at_call 5; refine (bytes1_any _ _ _ _ _ H.out hcap hm).mono ?_; rintro e w' ⟨rfl, r, rfl⟩)
    · go_ret; exact ⟨rfl, Below.refl _ _⟩
    go_loop [3, 4] (fun z i => ∃ (k : Nat) (y : Int), k ≤ len ∧ i = .int .i64 k ∧ z = .int .i64 y) (fun _ i => len - (intOf i).toNat)
    case atStart => exact ⟨0, 0, Nat.zero_le _, rfl, rfl⟩
    case round =>
      obtain ⟨k, y, hk, rfl, rfl⟩ := hrel
      by_cases hkl : k < len
      · obtain ⟨b, off, rfl, s, hs, hss, hc⟩ := H.out.cell hkl
        have HS : Hid (ss[k]? = some s) := hs
        unfold maxLen at hss
        clear hs
        go_wp2
        · go_ret; exact ⟨rfl, Below.refl _ _⟩
        · go_round
          case rel => go_light; exact ⟨k + 1, _, by omega, by go_num, rfl⟩
          case measure => go_light; simp [intOf]; omega
      · obtain ⟨i0, hi, hz0, hz1, hz2⟩ := info_parts Try.info9
        go_wp2_with (first
          | (at_make; refine wpList_make_own _ rfl _ _ 22 rfl (w.heap.size + 1) 9 i0 (.string ByteArray.empty) 1 Try.underlying22 hi hz0 hz1 .i64 .i64 _ len rfl rfl rfl (by rw [hz2]; omega) (by unfold maxLen; omega) (by simp) ?_; intro w2 hown2 hgrow2))
        have hsz : (w.alloc (.cells #[.int .i32 0, .int .u32 0, .map none] 34)).heap.size = w.heap.size + 1 := by simp
        rw [hsz] at hown2
        have HO2 : Hid (w2.ownsRow (w.heap.size + 1) 9 1 (.slice (some ⟨w.heap.size + 1, 0, none⟩) 0 len) 0 (sv [])) := hown2
        have HB2 : Hid (Below w.heap.size w w2) := ((Below.refl _ _).alloc (Nat.le_refl _) _).grown hgrow2 (by simp) (by simp)
        have HA2 : Hid (Ali w2 w.heap.size []) := by
          refine ⟨⟨_, ?_, .inl ⟨rfl, rfl⟩⟩⟩
          rw [hgrow2.block w.heap.size (by simp) (by simp)]
          exact (MapKept.heap_alloc w _).1
        clear hown2 hgrow2 hsz
        go_loopw [6, 7] (fun v i wr => ∃ (k : Nat) (S : List ByteArray), k ≤ len ∧ i = .int .i64 k ∧ S.length ≤ k ∧ v = .slice (some ⟨w.heap.size + 1, 0, none⟩) S.length len ∧ Hid (wr.ownsRow (w.heap.size + 1) 9 1 (.slice (some ⟨w.heap.size + 1, 0, none⟩) S.length len) S.length (sv S)) ∧ Hid (Ali wr w.heap.size (S.map nm)) ∧ Hid (Below w.heap.size w wr)) (fun _ i _ => len - (intOf i).toNat)
        case atStart => exact ⟨0, [], Nat.zero_le _, rfl, Nat.le_refl _, rfl, HO2, HA2, HB2⟩
        case round =>
          obtain ⟨q, S, hq, rfl, hSq, rfl, HO, HA, HB⟩ := hrel
          by_cases hql : q < len
          · obtain ⟨b, off, rfl, s, hs, hss, hc0⟩ := H.out.cell hql
            have hlt : b < w.heap.size := block_lt_of_cell hc0
            have hc : wr.cell? ⟨b, off + q, none⟩ = some (.string s) := (HB.out.cell (p := ⟨b, off + q, none⟩) hlt).trans hc0
            have HC0 : Hid _ := hc0
            clear hc0
            obtain ⟨g, hg⟩ : ∃ g, ali (S.map nm) (nm s) = g := ⟨_, rfl⟩
            have HG : Hid _ := hg
            have HS : Hid (ss[q]? = some s) := hs
            clear hs
            go_wp2_with fail
            refine (of_any _ (S.map nm) s _ HA.out hss (by simp; omega)).mono ?_
            rintro e w3 ⟨rfl, hA3, hK3⟩
            rw [hg]
            clear hg
            have HA3 : Hid _ := hA3
            have HB3 : Hid (Below w.heap.size w w3) := HB.out.trans hK3.below
            have HO3 : Hid (w3.ownsRow (w.heap.size + 1) 9 1 (.slice (some ⟨w.heap.size + 1, 0, none⟩) S.length len) S.length (sv S)) := owns_kept HO.out hK3 (show w.heap.size + 1 ≠ w.heap.size by omega)
            have hc3 : w3.cell? ⟨b, off + q, none⟩ = some (.string s) := (HB3.out.cell (p := ⟨b, off + q, none⟩) hlt).trans HC0.out
            clear hA3 hK3 HO HA HB hc
            go_wp2
            go_loopw [9, 10] (fun z j wr2 => ∃ (p m : Nat), p ≤ S.length ∧ j = .int .i64 p ∧ z = .int .u64 0 ∧ wr2 = w3.drewN m ∧ Hid (∀ (q : Nat) (t : ByteArray), q < p → S[q]? = some t → nm t ≠ nm s)) (fun _ j _ => S.length - (intOf j).toNat)
            case atStart => exact ⟨0, 0, Nat.zero_le _, rfl, rfl, rfl, fun q t hq => absurd hq (by omega)⟩
            case round =>
              obtain ⟨p, m, hp, rfl, rfl, rfl, HN⟩ := hrel
              by_cases hpl : p < S.length
              · obtain ⟨t, ht⟩ : ∃ t, S[p]? = some t := ⟨_, List.getElem?_eq_getElem hpl⟩
                have hct := owns_str HO3.out ht
                have HT : Hid _ := ht
                clear ht
                cases heq : (t.toList == s.toList)
                · have HE : Hid (nm t ≠ nm s) := by
                    show _ ≠ _
                    rw [← toList_nm, ← toList_nm]; simpa using heq
                  go_wp2
                  go_quiet (fail)
                  go_wp2
                  go_roundw
                  case rel =>
                    go_light
                    refine ⟨p + 1, _, by omega, by go_num, rfl, rfl, ?_⟩
                    intro q' t' hq' ht'
                    by_cases e : q' < p
                    · exact HN.out q' t' e ht'
                    · obtain rfl : q' = p := by omega
                      rw [HT.out] at ht'; cases ht'; exact HE.out
                  case measure => go_light; simp [intOf]; omega
                · have HE : Hid (nm t = nm s) := by
                    show _ = _
                    rw [← toList_nm, ← toList_nm]; simpa using heq
                  have hg : g = p + 1 := by
                    rw [← HG.out]; unfold ali
                    rw [idx_first (j := p) (by rw [List.getElem?_map, HT.out, Option.map_some, HE.out]) (fun q' t' hq' ht' => by
                      rw [List.getElem?_map] at ht'
                      cases h' : S[q']? with
                      | none => rw [h'] at ht'; cases ht'
                      | some u => rw [h'] at ht'; cases ht'; exact HN.out q' u hq' h')]
                  have hne : ((g : Int) != (p : Int) + 1) = false := by rw [hg]; simp
                  have Hg : Hid _ := hg
                  clear hg
                  go_wp2
                  go_quiet (fail)
                  go_wp2
                  go_roundw
                  case rel =>
                    go_light
                    have hin : nm s ∈ S.map nm := by
                      rw [← HE.out]; exact List.mem_map_of_mem (List.mem_of_getElem? HT.out)
                    have h3 := HA3.out
                    rw [step_mem hin] at h3
                    exact ⟨q + 1, S, by omega, by go_num, by omega, rfl, HO3, h3.drewN _, below_drewN HB3.out _⟩
                  case measure => go_light; simp [intOf]; omega
              · obtain rfl : p = S.length := by omega
                have HNM : Hid (¬ nm s ∈ S.map nm) := no_mem HN.out
                have hg : g = S.length + 1 := by
                  rw [← HG.out, ali_new HNM.out]; simp
                have hne : ((g : Int) != (S.length : Int) + 1) = false := by rw [hg]; simp
                have Hg : Hid _ := hg
                clear hg
                go_wp2_with (at_builtin; refine wpList_append_fits _ rfl (.tmp 70) (.tmp 75) 22 rfl (w.heap.size + 1) 9 i0 1 Try.underlying22 hi hz1 (w.heap.size + 1) S.length len (sv S) rfl (by exact HO3.out.alloc _) ⟨w3.heap.size, 0, none⟩ 1 1 [.string s] rfl rfl (by exact cell_one_new _ _ _) (by simp [Value.oneCell']) (by omega) ?_; intro w4 hown4 hgrow4; have HO4 : Hid _ := hown4; have HGr : Hid _ := hgrow4; clear hown4 hgrow4)
                go_roundw
                case rel =>
                  go_light
                  have hA : Ali w3 w.heap.size ((S ++ [s]).map nm) := by
                    have h3 := HA3.out
                    rw [step_new HNM.out] at h3
                    simpa using h3
                  have hA' := ((hA.drewN m).grown (World.grownBy_alloc (w3.drewN m) (.cells #[.string s] 9) none) (by simp)).grown HGr.out (by
                    intro k' hk'
                    cases hk'
                    exact ⟨by omega, owns_row (show ((w3.drewN m).alloc (.cells #[.string s] 9)).ownsRow _ _ _ _ _ _ from World.ownsRow.alloc (w := w3.drewN m) HO3.out _)⟩)
                  refine ⟨q + 1, S ++ [s], by omega, by go_num, by simp; omega, by simp, ?_, hA', ?_⟩
                  · have e : (S ++ [s]).length = S.length + 1 := by simp
                    show World.ownsRow _ _ _ _ _ _ _
                    rw [e, show sv (S ++ [s]) = sv S ++ [.string s] by simp [sv]]
                    exact HO4.out
                  · exact ((below_drewN HB3.out m).alloc HB3.out.size _).grown HGr.out (by simp; have := HB3.out.size; omega) (by intro k' hk'; cases hk'; omega)
                case measure => go_light; simp [intOf]; omega
          · go_wp2
            go_ret
            exact ⟨rfl, HB.out⟩
  · go_enter Try.func3, Try.ntmps3
    go_wp2_with (go_at_call 5; refine (bytes1_any _ _ _ _ _ H.out hcap hm).mono ?_; rintro e w' ⟨rfl, r, rfl⟩)
    · go_ret; exact ⟨rfl, Below.refl _ _⟩
    · go_ret; exact ⟨rfl, Below.refl _ _⟩

end Go.Proofs.Qxb6628448a

import Derived.Test.Qxb6628382aWalk2
import Derived.Deep.Light
namespace Go.Proofs.Qxb6628382a
open Go.ChangeShapes Go.WideShapes Go.ChangeAt Go.RowKit
set_option linter.unusedVariables false

def prow (l : List UInt8) (k : Nat) : List UInt8 := l.take k ++ List.replicate (l.length - k) 0
theorem prow_zero (l : List UInt8) : bv (prow l 0) = List.replicate l.length (Value.int .u8 0) := by simp [prow, bv]
theorem prow_all (l : List UInt8) : prow l l.length = l := by simp [prow]
theorem prow_length (l : List UInt8) (k : Nat) (h : k ≤ l.length) : (prow l k).length = l.length := by simp [prow]; omega
theorem prow_next (l : List UInt8) (k : Nat) (c : UInt8) (h : l[k]? = some c) : (bv (prow l k)).set k (.int .u8 (c.toNat : Int)) = bv (prow l (k + 1)) := by
  have hk := (List.getElem?_eq_some_iff.1 h).1
  have e : bv ((prow l k).set k c) = (bv (prow l k)).set k (.int .u8 (c.toNat : Int)) := by simp [bv]
  rw [← e]
  congr 1
  unfold prow
  rw [List.take_add_one, h, List.set_append]
  have hl : (l.take k).length = k := by simp; omega
  rw [hl, if_neg (by omega), Nat.sub_self]
  have : l.length - k = (l.length - (k + 1)) + 1 := by omega
  rw [this, List.replicate_succ]
  simp

theorem p_step {wr : World} {base g n cap : Nat} {l : List UInt8} {k : Nat} {c : UInt8} {v : Int} (h : wr.ownsRow base 5 1 (.slice (some ⟨g, 0, none⟩) n cap) n (bv (prow l k))) (hd : l[k]? = some c) (hv : v = (c.toNat : Int)) :
    (wr.setCell ⟨g, k, none⟩ (.int .u8 v)).ownsRow base 5 1 (.slice (some ⟨g, 0, none⟩) n cap) n (bv (prow l (k + 1))) := by
  have := (h.stored k (.int .u8 v)).1
  rw [hv, prow_next l k c hd] at this
  rw [hv]; exact this

theorem spoil_step {wr : World} {base g n cap : Nat} {W : List UInt8} {j : Nat} {c : UInt8} {v : Int} (h : wr.ownsRow base 5 1 (.slice (some ⟨g, 0, none⟩) n cap) n (bv W)) (hv : v = (c.toNat : Int)) :
    (wr.setCell ⟨g, j, none⟩ (.int .u8 v)).ownsRow base 5 1 (.slice (some ⟨g, 0, none⟩) n cap) n (bv (W.set j c)) := by
  have := (h.stored j (.int .u8 v)).1
  rw [hv] at this ⊢
  have e : bv (W.set j c) = (bv W).set j (.int .u8 (c.toNat : Int)) := by simp [bv]
  rw [e]; exact this

theorem xor_byte (c : UInt8) : bits BinOp.xor IntKind.u8 (c.toNat : Int) 1 = ((c ^^^ 1).toNat : Int) := by
  have h : ∀ n : Fin 256, bits BinOp.xor IntKind.u8 ((UInt8.ofFin n).toNat : Int) 1 = (((UInt8.ofFin n) ^^^ 1).toNat : Int) := by decide +kernel
  exact h c.toFin

theorem extract_list (s : ByteArray) (i j : Nat) : (s.extract i j).data.toList = (s.data.toList.take j).drop i := by
  rw [ByteArray.data_extract, Array.toList_extract, List.extract_eq_drop_take']

theorem digAt_nat (k : Nat) : (48 : Int) + (k : Int) % 10 = ((digAt k).toNat : Int) := by
  unfold digAt
  rw [UInt8.toNat_ofNat']
  omega

theorem inst_at {b l : List UInt8} {k : Nat} {d : UInt8} (hd : l[k]? = some d) : (inst b l)[k]? = some (instAt b k d) := by rw [inst_get, hd]; rfl

theorem RdB.take {w : World} {ao : Option Addr} {bs : List UInt8} (h : RdB w ao bs) (n : Nat) : RdB w ao (bs.take n) := by
  rcases h with h | ⟨b, off, rfl, hc⟩
  · exact .inl (by rw [h]; simp)
  · refine .inr ⟨b, off, rfl, fun k c hk => hc k c ?_⟩
    rw [List.getElem?_take] at hk
    split at hk
    · exact hk
    · cases hk

theorem RdB.drop {w : World} {ao ao' : Option Addr} {bs : List UInt8} {n : Nat} (h : RdB w ao bs) (h' : n < bs.length → ∀ b off, ao = some ⟨b, off, none⟩ → ao' = some ⟨b, off + n, none⟩) : RdB w ao' (bs.drop n) := by
  by_cases hn : n < bs.length
  · rcases h with h | ⟨b, off, rfl, hc⟩
    · subst h; simp at hn
    · refine .inr ⟨b, off + n, h' hn b off rfl, fun k c hk => ?_⟩
      rw [Nat.add_assoc]
      exact hc (n + k) c (by simpa using hk)
  · exact .inl (List.drop_eq_nil_of_le (by omega))

set_option maxRecDepth 100000 in
set_option maxHeartbeats 1000000 in
theorem inst_walk (a0 : Option Addr) (len0 cap0 : Nat) (b0 : List UInt8) (s : ByteArray) (kk jj : Int) (w : World) (h0 : Arg w a0 len0 cap0 b0) (h2 : s.size ≤ maxLen)
    (wk : (Lit.int .i64 kk).wf = true) (wj : (Lit.int .i64 jj).wf = true) :
    Calls Try.prog 3 #[.slice a0 len0 cap0, .string s, .int .i64 kk, .int .i64 jj] w fun e w' => e = .returned (.bool true) ∧ Below w.heap.size w w' := by
  have H0 : Hid (Arg w a0 len0 cap0 b0) := h0
  have l0 := h0.le
  have m0 := h0.max
  have bk := bounds_i64 wk
  have bj := bounds_i64 wj
  clear h0 wk wj
  have hneq := fun wx n c => run_neq_slice_nil_any (P := Try.prog) wx 22 5 a0 len0 cap0 n c Try.underlying22
  by_cases hkr : kk < 0 ∨ (s.size : Int) < kk
  · rcases hkr with hk1 | hk1
    · go_enter Try.func3, Try.ntmps3
      go_wp2_with (go_at_call 5; refine (bytes1_any _ _ _ _ _ _ _ l0 m0 h2).mono ?_; rintro e w' ⟨r, rfl, rfl⟩)
      all_goals (go_ret; exact ⟨rfl, Below.refl _ _⟩)
    · have hk0 : ¬ kk < 0 := by omega
      go_enter Try.func3, Try.ntmps3
      go_wp2_with (go_at_call 5; refine (bytes1_any _ _ _ _ _ _ _ l0 m0 h2).mono ?_; rintro e w' ⟨r, rfl, rfl⟩)
      all_goals (go_ret; exact ⟨rfl, Below.refl _ _⟩)
  · obtain ⟨k, rfl⟩ : ∃ k : Nat, kk = k := ⟨kk.toNat, by omega⟩
    have hk1 : ¬ (k : Int) < 0 := by omega
    have hk2 : k ≤ s.size := by omega
    clear hkr bk
    go_enter Try.func3, Try.ntmps3
    go_upto_if 44 with (go_at_call 5; refine (bytes1_any _ _ _ _ _ _ _ l0 m0 h2).mono ?_; rintro e w' ⟨r, rfl, rfl⟩)
    · go_ret; exact ⟨rfl, Below.refl _ _⟩
    · go_ret; exact ⟨rfl, Below.refl _ _⟩
    · go_ret; exact ⟨rfl, Below.refl _ _⟩
    have hL0 : len0 ≤ 524288 := by omega
    have hLs : s.size ≤ 524288 := by omega
    go_cut [0] (fun v wc => ∃ ao cap, v = .slice ao len0 cap ∧ len0 ≤ cap ∧ cap ≤ maxLen ∧ Hid (Arg wc ao len0 cap b0) ∧ Hid (Below w.heap.size w wc) ∧ Hid (ao = none ∨ ((∃ g, ao = some ⟨g, 0, none⟩) ∧ cap = len0)))
    case first =>

      as_aux_lemma =>
        cases a0 with
        | none =>
          go_wp2
          go_meet
          case rel => go_light; exact ⟨_, _, rfl, l0, m0, H0, Below.refl _ _, .inl rfl⟩
        | some x =>
          obtain ⟨i0, hi, hz0, hz1, hz2⟩ := info_parts Try.info5
          go_wp2_with (first
            | (at_make; refine wpList_make_full _ rfl _ _ 22 rfl w.heap.size 5 i0 (.int .u8 0) 1 Try.underlying22 hi hz0 hz1 .i64 .i64 _ _ len0 rfl rfl rfl rfl (by rw [hz2]; omega) (by omega) (Nat.le_refl _) ?_; intro w1 hown1 hgrow1; have HG1 : Hid _ := made_block rfl hown1; have hbel1 : Hid (Below w.heap.size w w1) := (Below.refl _ _).grown hgrow1 (Nat.le_refl _) (by simp); clear hown1 hgrow1)
            | (have _t := HG1; refine wpList_copy_splice rfl (.tmp 48) (.tmp 49) 22 22 rfl 5 Try.underlying22 (by kernel_rfl) _ _ _ _ _ _ rfl rfl w.heap.size 0 _ 5 HG1.out (bv b0) (by rw [bv_length, H0.out.len_eq]; simp) (copy_pos (H0.out.rd.below hbel1.out) _) (by rw [bv_length, H0.out.len_eq]; simp) (bv_one _) w.heap.size w hbel1.out (Nat.le_refl _) ?_; intro w2 HG2 hB2; have HB2 : Hid _ := hB2; clear hB2))
          go_meet
          case rel =>
            go_light
            have h := H0.out
            have hg := HG2.out
            rw [splice_all (by rw [bv_length, h.len_eq]; simp)] at hg
            exact ⟨_, _, rfl, Nat.le_refl _, by omega, ⟨RdB.of_block hg, h.len_eq, Nat.le_refl _, by omega, fun hh => by cases hh⟩, HB2, .inr ⟨⟨_, rfl⟩, rfl⟩⟩

    case rest =>
      obtain ⟨ao, cap, rfl, lc, mc, HA, HW, HSp⟩ := hcut
      clear hneq H0
      have HSl : Hid (s.data.toList.length = s.size) := by show _ = _; simp
      obtain ⟨i0, hi, hz0, hz1, hz2⟩ := info_parts Try.info5
      go_wp2_with fail
      refine (zz_hs_list b0 s.data.toList s _ _ _ _ HA.out.rd HA.out.len_eq lc mc rfl (by rw [HSl.out]; exact h2) _ rfl).mono ?_
      rintro e w' ⟨rfl, m1, rfl⟩
      go_wp2_with (first
        | (at_make; refine wpList_make_full _ rfl _ _ 22 rfl wc.heap.size 5 i0 (.int .u8 0) 1 Try.underlying22 hi hz0 hz1 .i64 .i64 _ _ s.size rfl rfl rfl rfl (by rw [hz2]; omega) (by unfold maxLen; omega) (Nat.le_refl _) ?_; intro w6 hown6 hgrow6; have HG6 : Hid _ := made_block rfl hown6; have HB6 : Hid (Below wc.heap.size wc w6) := (below_drewN (Below.refl _ _) _).grown hgrow6 (Nat.le_refl _) (by simp); clear hown6 hgrow6))
      have HIl : Hid ((inst b0 s.data.toList).length = s.size) := by show _ = _; rw [inst_length, HSl.out]
      have HO6 : Hid (w6.ownsRow wc.heap.size 5 1 (.slice (some ⟨wc.heap.size, 0, none⟩) s.size s.size) s.size (bv (prow (inst b0 s.data.toList) 0))) := by
        refine owns_of_block ?_ (Nat.le_refl _) ?_ (by unfold maxLen; omega)
        · rw [prow_zero, HIl.out]; exact HG6.out
        · rw [bv_length, prow_length _ _ (Nat.zero_le _), HIl.out]
      clear HG6
      go_loopw [13, 14] (fun i c wr => ∃ k : Nat, k ≤ s.size ∧ i = .int .i64 k ∧ Hid (wr.ownsRow wc.heap.size 5 1 (.slice (some ⟨wc.heap.size, 0, none⟩) s.size s.size) s.size (bv (prow (inst b0 s.data.toList) k))) ∧ Hid (Below wc.heap.size wc wr)) (fun i _ _ => s.size - (intOf i).toNat)
      case atStart => exact ⟨0, Nat.zero_le _, rfl, HO6, HB6⟩
      case round =>
        obtain ⟨q, hq, rfl, HO, HB⟩ := hrel
        by_cases hqs : q < s.size
        · skip

          have HD : Hid (s.data.toList[q]? = some s[q]) := str_get s q hqs
          have HI : Hid ((inst b0 s.data.toList)[q]? = some (instAt b0 q s[q])) := inst_at HD.out
          obtain ⟨old, hold⟩ : ∃ old, wr.cell? ⟨wc.heap.size, q, none⟩ = some (.int .u8 old) := by
            rw [HO.out.cellAt q (by omega), bv_get]
            have : q < (prow (inst b0 s.data.toList) q).length := by rw [prow_length _ _ (by rw [HIl.out]; omega), HIl.out]; omega
            rw [List.getElem?_eq_getElem this]
            exact ⟨_, rfl⟩
          have hfz := HO.out.frozenAt q
          cases hu : up s[q]
          · go_wp2_with (go_at_call 7; refine (upper_any _ _).mono ?_; rintro e w' ⟨rfl, rfl⟩)
            go_roundw
            case rel => go_light; exact ⟨q + 1, by omega, by go_num, p_step HO.out HI.out (by simp [instAt, hu]), HB.out.setCell (p := ⟨wc.heap.size, q, none⟩) (Nat.le_refl _) _⟩
            case measure => go_light; simp [intOf]; omega
          · by_cases hqb : q < len0
            · obtain ⟨xb, xo, rfl, c, hc, hcell⟩ := (HA.out.below HB.out).cell hqb
              have HC : Hid (b0[q]? = some c) := hc
              have HE : Hid (instAt b0 q s[q] = if dg c then c else digAt q) := by
                show _ = _
                have hg : b0.getD q 0 = c := by simp [List.getD, hc]
                have hl : q < b0.length := by rw [HA.out.len_eq]; exact hqb
                unfold instAt; rw [hg]; simp [hu, hl]
              clear hc
              cases hdg : dg c
              · go_wp2_with (first
                  | (go_at_call 7; refine (upper_any _ _).mono ?_; rintro e w' ⟨rfl, rfl⟩)
                  | (go_at_call 8; refine (digit_any _ _).mono ?_; rintro e w' ⟨rfl, rfl⟩))
                go_roundw
                case rel => go_light; exact ⟨q + 1, by omega, by go_num, p_step HO.out HI.out (by rw [HE.out, hdg]; simp [digAt_nat]), HB.out.setCell (p := ⟨wc.heap.size, q, none⟩) (Nat.le_refl _) _⟩
                case measure => go_light; simp [intOf]; omega
              · go_wp2_with (first
                  | (go_at_call 7; refine (upper_any _ _).mono ?_; rintro e w' ⟨rfl, rfl⟩)
                  | (go_at_call 8; refine (digit_any _ _).mono ?_; rintro e w' ⟨rfl, rfl⟩))
                go_roundw
                case rel => go_light; exact ⟨q + 1, by omega, by go_num, p_step HO.out HI.out (by rw [HE.out, hdg]; simp), HB.out.setCell (p := ⟨wc.heap.size, q, none⟩) (Nat.le_refl _) _⟩
                case measure => go_light; simp [intOf]; omega
            · have HE : Hid (instAt b0 q s[q] = digAt q) := by
                show _ = _
                have hl : ¬ q < b0.length := by rw [HA.out.len_eq]; exact hqb
                unfold instAt; simp [hu, hl]
              go_wp2_with (go_at_call 7; refine (upper_any _ _).mono ?_; rintro e w' ⟨rfl, rfl⟩)
              go_roundw
              case rel => go_light; exact ⟨q + 1, by omega, by go_num, p_step HO.out HI.out (by rw [HE.out]; simp [digAt_nat]), HB.out.setCell (p := ⟨wc.heap.size, q, none⟩) (Nat.le_refl _) _⟩
              case measure => go_light; simp [intOf]; omega

        · obtain rfl : q = s.size := by omega
          have HI : Hid (Arg wr (some ⟨wc.heap.size, 0, none⟩) s.size s.size (inst b0 s.data.toList)) := by
            refine Arg.of_owns (base := wc.heap.size) ?_ (Nat.le_refl _) (by unfold maxLen; omega)
            have h := HO.out
            rw [← HIl.out, prow_all, HIl.out] at h
            exact h
          have HA' : Hid (Arg wr ao len0 cap b0) := HA.out.below HB.out
          have HBel : Hid (Below w.heap.size w wr) := HW.out.trans (HB.out.mono HW.out.size)
          clear HA HW HO HB HO6 HB6
          go_upto_region 25 with fail
          go_cut [15] (fun v w2 => v = .bool (hs b0 s.data.toList) ∧ ∃ m, w2 = wr.drewN m)
          case first =>

            as_aux_lemma =>
              by_cases hge : s.size ≤ len0
              · have E1 : Hid ((inst b0 s.data.toList == b0.take s.size) = hs b0 s.data.toList) := by
                  show _ = _
                  rw [inst1, HSl.out, HA'.out.len_eq]; simp [hge]
                go_wp2_with fail
                refine (same_any _ _ (inst b0 s.data.toList) (b0.take s.size) _ _ _ _ HI.out.rd (HA'.out.rd.take _) HI.out.len_eq (by rw [List.length_take, HA'.out.len_eq]; omega) (Nat.le_refl _) (by omega) HI.out.max mc).mono ?_
                rintro e w' ⟨rfl, m2, rfl⟩
                go_wp2
                go_meet
                case rel => go_light; exact ⟨by rw [E1.out], _, rfl⟩
              · go_wp2_with fail
                go_meet
                case rel => go_light; exact ⟨by rw [hs_short (by rw [HA'.out.len_eq, HSl.out]; omega)], 0, rfl⟩

          case rest =>
            obtain ⟨rfl, m2, rfl⟩ := hcut
            go_upto_if 120 with (first
              | (at_make; refine wpList_make_own _ rfl _ _ 22 rfl wr.heap.size 5 i0 (.int .u8 0) 1 Try.underlying22 hi hz0 hz1 .i64 .i64 _ (s.size + len0) rfl rfl (by omega) (by rw [hz2]; omega) (by unfold maxLen; omega) (Nat.le_refl _) ?_; intro w3 hown3 hgrow3; have HO3 : Hid _ := hown3; have HB3 : Hid (Below wr.heap.size wr w3) := (below_drewN (Below.refl _ _) _).grown hgrow3 (Nat.le_refl _) (by simp); clear hown3 hgrow3)
              | (at_builtin; have _t := HO3; clear _t; refine wpList_append_fits_any _ rfl (.tmp 114) (.tmp 115) 22 rfl wr.heap.size 5 i0 1 Try.underlying22 hi hz1 _ _ _ _ rfl HO3.out _ _ _ (bv (inst b0 s.data.toList)) rfl (by rw [bv_length, HI.out.len_eq]; simp) HI.out.nil (app_src (HI.out.rd.below HB3.out)) (bv_one _) (by omega) ?_; intro w4 hown4 hgrow4; simp only [Nat.zero_add, List.nil_append] at hown4; have HO4 : Hid _ := hown4; have HB4 : Hid (Below wr.heap.size wr w4) := HB3.out.grown hgrow4 HB3.out.size (by simp); clear hown4 hgrow4 HO3))
            go_cut [16] (fun v w5 => ∃ lw : Nat, v = .slice (some ⟨wr.heap.size, 0, none⟩) lw (s.size + len0) ∧ lw ≤ s.size + len0 ∧ s.size ≤ lw ∧ Hid (Arg w5 (some ⟨wr.heap.size, 0, none⟩) lw (s.size + len0) (inst b0 s.data.toList ++ b0.drop s.size)) ∧ Hid (Below wr.heap.size wr w5))
            case first =>

              as_aux_lemma =>
                by_cases hgt : s.size < len0
                · obtain ⟨xb, xo, rfl, _, _, _⟩ := HA'.out.cell hgt
                  have hne : ¬ cap = s.size := by omega
                  have HAd : Hid (RdB wr (some ⟨xb, xo + s.size, none⟩) (b0.drop s.size)) := HA'.out.rd.drop (fun _ b off h => by cases h; rfl)
                  go_wp2_with (at_builtin; have _t := HO4; clear _t; refine wpList_append_fits_any _ rfl (.tmp 121) (.tmp 124) 22 rfl wr.heap.size 5 i0 1 Try.underlying22 hi hz1 _ _ _ _ rfl HO4.out _ _ _ (bv (b0.drop s.size)) rfl (by rw [bv_length, List.length_drop, HA'.out.len_eq]; simp) (by intro h; cases h) (app_src (HAd.out.below HB4.out)) (bv_one _) (by omega) ?_; intro w5 hown5 hgrow5; have HO5 : Hid _ := hown5; have HB5 : Hid (Below wr.heap.size wr w5) := HB4.out.grown hgrow5 HB4.out.size (by simp); clear hown5 hgrow5)
                  go_meet
                  case rel => go_light; exact ⟨_, rfl, by omega, by omega, Arg.of_owns (base := wr.heap.size) (by rw [bv_append]; exact HO5.out) (by omega) (by unfold maxLen; omega), HB5⟩
                · go_wp2
                  go_meet
                  case rel => go_light; exact ⟨_, rfl, by omega, by omega, Arg.of_owns (base := wr.heap.size) (by rw [List.drop_eq_nil_of_le (by rw [HA'.out.len_eq]; omega), List.append_nil]; exact HO4.out) (by omega) (by unfold maxLen; omega), HB4⟩

            case rest =>
              obtain ⟨lw, rfl, hlw, hlw2, HWA, HB5⟩ := hcut
              obtain ⟨w5, hw5⟩ : ∃ w5, w5 = wc := ⟨_, rfl⟩
              subst hw5
              clear HO4 HB4
              have E2 : Hid (hs (inst b0 s.data.toList ++ b0.drop s.size) s.data.toList = true) := inst2 _ _ _
              go_wp2_with fail
              refine (zz_hs_list (inst b0 s.data.toList ++ b0.drop s.size) s.data.toList s _ _ _ _ HWA.out.rd HWA.out.len_eq hlw HWA.out.max rfl (by rw [HSl.out]; exact h2) _ E2.out).mono ?_
              rintro e w' ⟨rfl, m3, rfl⟩
              go_upto_region 32 with fail
              go_cut [135] (fun v w6 => v = .bool (decide (0 ≤ jj ∧ jj < s.size)) ∧ w6 = w5.drewN m3)
              case first =>

                as_aux_lemma =>
                  by_cases hj1 : 0 ≤ jj
                  · by_cases hj2 : jj < s.size
                    · go_wp2
                      go_meet
                      case rel => go_light; exact ⟨by simp [hj1, hj2], rfl⟩
                    · go_wp2
                      go_meet
                      case rel => go_light; exact ⟨by simp; omega, rfl⟩
                  · go_wp2
                    go_meet
                    case rel => go_light; exact ⟨by simp; omega, rfl⟩

              case rest =>
                obtain ⟨rfl, rfl⟩ := hcut
                go_upto_if 135 with fail
                go_cut [18] (fun v w6 => v = .bool true ∧ Hid (Below wr.heap.size wr w6))
                case first =>

                  as_aux_lemma =>
                    by_cases hjr : 0 ≤ jj ∧ jj < s.size
                    · obtain ⟨j, rfl⟩ : ∃ j : Nat, jj = j := ⟨jj.toNat, by omega⟩
                      have hj : j < s.size := by omega
                      have hjd : decide (0 ≤ (j : Int) ∧ (j : Int) < (s.size : Int)) = true := by simpa using hj
                      clear hjr bj
                      have HD : Hid (s.data.toList[j]? = some s[j]) := str_get s j hj
                      have HWl : Hid ((inst b0 s.data.toList ++ b0.drop s.size).length = lw) := HWA.out.len_eq
                      obtain ⟨W, hW⟩ : ∃ W, W = inst b0 s.data.toList ++ b0.drop s.size := ⟨_, rfl⟩
                      rw [← hW] at HWl HWA
                      have HWe : Hid _ := hW
                      clear hW
                      go_wp2_with (first
                        | (at_make; refine wpList_make_full _ rfl _ _ 22 rfl w5.heap.size 5 i0 (.int .u8 0) 1 Try.underlying22 hi hz0 hz1 .i64 .i64 _ _ lw rfl rfl rfl rfl (by rw [hz2]; omega) (by unfold maxLen; omega) (Nat.le_refl _) ?_; intro w7 hown7 hgrow7; have HG7 : Hid _ := made_block rfl hown7; have HB7 : Hid (Below w5.heap.size w5 w7) := (below_drewN (Below.refl _ _) _).grown hgrow7 (Nat.le_refl _) (by simp); clear hown7 hgrow7)
                        | (have _t := HG7; clear _t; refine wpList_copy_splice rfl (.tmp 139) (.tmp 140) 22 22 rfl 5 Try.underlying22 (by kernel_rfl) _ _ _ _ _ _ rfl rfl w5.heap.size 0 _ 5 HG7.out (bv W) (by rw [bv_length, HWl.out]; simp) (copy_pos (HWA.out.rd.below HB7.out) _) (by rw [bv_length, HWl.out]; simp) (bv_one _) w5.heap.size w5 HB7.out (Nat.le_refl _) ?_; intro w8 HG8 hB8; have HB8 : Hid _ := hB8; clear hB8 HG7))
                      have HO8 : Hid (w8.ownsRow w5.heap.size 5 1 (.slice (some ⟨w5.heap.size, 0, none⟩) lw lw) lw (bv W)) := by
                        have hg := HG8.out
                        rw [splice_all (by rw [bv_length, HWl.out]; simp)] at hg
                        exact owns_of_block hg (Nat.le_refl _) (by rw [bv_length, HWl.out]) (by unfold maxLen; omega)
                      clear HG8
                      obtain ⟨old, hold⟩ : ∃ old, w8.cell? ⟨w5.heap.size, j, none⟩ = some (.int .u8 old) := by
                        rw [HO8.out.cellAt j (by omega), bv_get]
                        rw [List.getElem?_eq_getElem (show j < W.length by rw [HWl.out]; omega)]
                        exact ⟨_, rfl⟩
                      have hfz := HO8.out.frozenAt j
                      have E3 : Hid (hs (W.set j (spoil s[j])) s.data.toList = false) := by
                        show _ = _
                        rw [HWe.out]; exact inst3 _ _ _ _ _ HD.out
                      cases hu : up s[j]
                      · have HS : Hid (RdB (w8.setCell ⟨w5.heap.size, j, none⟩ (.int .u8 (bits BinOp.xor IntKind.u8 (s[j].toNat : Int) 1))) (some ⟨w5.heap.size, 0, none⟩) (W.set j (spoil s[j]))) := RdB.of_owns (spoil_step HO8.out (by rw [xor_byte]; simp [spoil, hu]))
                        go_wp2_with (go_at_call 7; refine (upper_any _ _).mono ?_; rintro e w' ⟨rfl, hw⟩; obtain rfl : w8 = w' := hw.symm; clear hw)
                        refine (zz_hs_list (W.set j (spoil s[j])) s.data.toList s _ _ _ _ HS.out (by rw [List.length_set, HWl.out]) (Nat.le_refl _) (by unfold maxLen; omega) rfl (by rw [HSl.out]; exact h2) _ E3.out).mono ?_
                        rintro e w' ⟨rfl, m4, rfl⟩
                        go_wp2
                        go_meet
                        case rel => go_light; exact ⟨rfl, below_drewN ((HB5.out.trans (HB8.out.mono HB5.out.size)).setCell (p := ⟨w5.heap.size, j, none⟩) HB5.out.size _) _⟩
                      · have HS : Hid (RdB (w8.setCell ⟨w5.heap.size, j, none⟩ (.int .u8 (s[j].toNat : Int))) (some ⟨w5.heap.size, 0, none⟩) (W.set j (spoil s[j]))) := RdB.of_owns (spoil_step HO8.out (by simp [spoil, hu]))
                        go_wp2_with (go_at_call 7; refine (upper_any _ _).mono ?_; rintro e w' ⟨rfl, hw⟩; obtain rfl : w8 = w' := hw.symm; clear hw)
                        refine (zz_hs_list (W.set j (spoil s[j])) s.data.toList s _ _ _ _ HS.out (by rw [List.length_set, HWl.out]) (Nat.le_refl _) (by unfold maxLen; omega) rfl (by rw [HSl.out]; exact h2) _ E3.out).mono ?_
                        rintro e w' ⟨rfl, m4, rfl⟩
                        go_wp2
                        go_meet
                        case rel => go_light; exact ⟨rfl, below_drewN ((HB5.out.trans (HB8.out.mono HB5.out.size)).setCell (p := ⟨w5.heap.size, j, none⟩) HB5.out.size _) _⟩
                    · have hjd : decide (0 ≤ jj ∧ jj < (s.size : Int)) = false := by simpa using hjr
                      go_wp2
                      go_meet
                      case rel => go_light; exact ⟨rfl, below_drewN HB5.out _⟩

                case rest =>
                  obtain ⟨rfl, HB9⟩ := hcut
                  obtain ⟨w9, hw9⟩ : ∃ w9, w9 = wc := ⟨_, rfl⟩
                  subst hw9
                  have HA9 : Hid (Arg w9 ao len0 cap b0) := HA'.out.below HB9.out
                  have HBel9 : Hid (Below w.heap.size w w9) := HBel.out.trans (HB9.out.mono HBel.out.size)
                  obtain ⟨L, hL⟩ : ∃ L, hs b0 (s.data.toList.take k) = L := ⟨_, rfl⟩
                  have HL : Hid _ := hL
                  clear hL HA' HBel HB9 HI HWA HB5 E2 HIl
                  go_wp2_with fail
                  refine (zz_hs_list b0 (s.data.toList.take k) (s.extract 0 k) _ _ _ _ HA9.out.rd HA9.out.len_eq lc mc (by rw [extract_list]; simp) (by rw [List.length_take, HSl.out]; omega) _ HL.out).mono ?_
                  rintro e w10 ⟨rfl, m5, hw10⟩
                  have HA10 : Hid (Arg w10 ao len0 cap b0) := by rw [hw10]; exact ⟨HA9.out.rd.drewN _, HA9.out.len_eq, HA9.out.le, HA9.out.max, HA9.out.nil⟩
                  have HBel10 : Hid (Below w.heap.size w w10) := by rw [hw10]; exact below_drewN HBel9.out _
                  clear hw10 HA9 HBel9
                  obtain ⟨R, hR⟩ : ∃ R, (decide (k ≤ len0) && hs (b0.drop k) (s.data.toList.drop k)) = R := ⟨_, rfl⟩
                  have HR : Hid _ := hR
                  clear hR
                  go_upto_region 40 with fail
                  go_cut [21] (fun v w11 => v = .bool R ∧ ∃ m, w11 = w10.drewN m)
                  case first =>

                    as_aux_lemma =>
                      have HSt : Hid ((s.extract k s.size).data.toList = s.data.toList.drop k) := by
                        show _ = _
                        rw [extract_list, List.take_of_length_le (by rw [HSl.out]; exact Nat.le_refl _)]
                      have HSk : Hid ((s.data.toList.drop k).length ≤ maxLen) := by
                        show _ ≤ _
                        rw [List.length_drop, HSl.out]; omega
                      have HDk : Hid ((b0.drop k).length = len0 - k) := by show _ = _; rw [List.length_drop, HA10.out.len_eq]
                      by_cases hkl : k < len0
                      · obtain ⟨xb, xo, rfl, _, _, _⟩ := HA10.out.cell hkl
                        have hne : ¬ cap = k := by omega
                        have HAd : Hid (RdB w10 (some ⟨xb, xo + k, none⟩) (b0.drop k)) := HA10.out.rd.drop (fun _ b off h => by cases h; rfl)
                        have hkd : decide (k ≤ len0) = true := by simp; omega
                        have HR2 : Hid (hs (b0.drop k) (s.data.toList.drop k) = R) := by
                          have h := HR.out
                          rw [show decide (k ≤ len0) = true by simp; omega] at h
                          show _ = _
                          simpa using h

                        go_wp2
                        go_quiet ((go_at_call 6; exact Calls.quiet_of (zz_hs_list (b0.drop k) (s.data.toList.drop k) (s.extract k s.size) (some ⟨xb, xo + k, none⟩) (len0 - k) (cap - k) _ (by exact HAd.out) HDk.out (by omega) (by omega) HSt.out HSk.out _ HR2.out)))
                        go_wp2
                        go_meet
                        case rel => go_light; exact ⟨rfl, _, rfl⟩

                      · by_cases hke : k = len0
                        · subst hke
                          have HAd : ∀ ao', Hid (RdB w10 ao' (b0.drop k)) := fun ao' => .inl (List.drop_eq_nil_of_le (by rw [HA10.out.len_eq]; exact Nat.le_refl _))
                          have HR2 : Hid (hs (b0.drop k) (s.data.toList.drop k) = R) := by
                            have h := HR.out
                            show _ = _
                            simpa using h

                          rcases HSp.out with rfl | ⟨⟨g, rfl⟩, rfl⟩
                          · obtain ⟨rfl, rfl⟩ := HA10.out.nil rfl
                            go_wp2
                            go_quiet ((go_at_call 6; exact Calls.quiet_of (zz_hs_list (b0.drop 0) (s.data.toList.drop 0) s none 0 0 _ (by exact HAd _) HDk.out (Nat.le_refl _) (Nat.zero_le _) List.drop_zero.symm HSk.out _ HR2.out)))
                            go_wp2
                            go_meet
                            case rel => go_light; exact ⟨rfl, _, rfl⟩
                          · go_wp2
                            go_quiet ((go_at_call 6; exact Calls.quiet_of (zz_hs_list (b0.drop cap) (s.data.toList.drop cap) (s.extract cap s.size) (some ⟨g, 0, none⟩) 0 0 _ (by exact HAd _) (by rw [HDk.out]; simp) (Nat.le_refl _) (Nat.zero_le _) HSt.out HSk.out _ HR2.out)))
                            go_wp2
                            go_meet
                            case rel => go_light; exact ⟨rfl, _, rfl⟩

                        · have hkd : decide (k ≤ len0) = false := by simp; omega
                          have HR2 : Hid (R = false) := by
                            have h := HR.out
                            rw [show decide (k ≤ len0) = false by simp; omega] at h
                            show _ = _
                            simpa using h.symm
                          go_wp2
                          go_quiet (fail)
                          go_wp2
                          go_meet
                          case rel => go_light; exact ⟨by rw [HR2.out], _, rfl⟩

                  case rest =>
                    obtain ⟨rfl, m6, rfl⟩ := hcut
                    have HP : Hid (hs b0 s.data.toList = (L && R)) := by
                      show _ = _
                      rw [inst4 b0 s.data.toList k (by rw [HSl.out]; exact hk2), HL.out, HA10.out.len_eq, HR.out]
                    clear HL HR
                    cases L <;> cases R
                    all_goals
                      have hP := HP.out
                      simp only [Bool.and_true, Bool.and_false] at hP
                      go_wp2
                      go_ret
                      exact ⟨rfl, below_drewN HBel10.out _⟩

end Go.Proofs.Qxb6628382a

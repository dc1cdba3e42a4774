import Derived.Test.Qxb6628448aWalk3
import Derived.Test.Qxb6628448aPlain2
import Derived.Deep.RegionWith
namespace Go.Proofs.Qxb6628448a
open Go.ChangeShapes Go.WideShapes Go.ChangeAt
open Go.RowKit
open Go.Maps
open Go.WideMaps
set_option linter.unusedVariables false

theorem bytes2_any (ao : Option Addr) (len cap : Nat) (ss : List ByteArray) (x : ByteArray) (w : World) (h : ArgS w ao len ss) (hcap : len ≤ cap) (hm : cap ≤ maxLen) (hx : x.size ≤ maxLen) :
    Calls Try.prog 7 #[.slice ao len cap, .string x] w fun e w' => w = w' ∧ BoolEnd e := by
  unfold maxLen at hm hx
  have H : Hid (ArgS w ao len ss) := h
  clear h
  by_cases hl : len ≤ 1048576
  · go_enter Try.func7, Try.ntmps7
    go_wp2
    go_loop [5, 6] (fun z i => ∃ (k : Nat) (y : Int), k ≤ len ∧ i = .int .i64 k ∧ z = .int .i64 y ∧ 0 ≤ y ∧ y ≤ 1048576) (fun _ i => len - (intOf i).toNat)
    case atStart => exact ⟨0, len, Nat.zero_le _, rfl, rfl, by omega, by omega⟩
    case round =>
      obtain ⟨k, y, hk, rfl, rfl, hy1, hy2⟩ := hrel
      by_cases hkl : k < len
      · obtain ⟨b, off, rfl, s, hs, hss, hc⟩ := H.out.cell hkl
        have HS : Hid (ss[k]? = some s) := hs
        clear hs
        go_wp2
        · go_ret; first | exact ⟨rfl, _, rfl⟩ | exact ⟨_, rfl⟩
        · go_ret; first | exact ⟨rfl, _, rfl⟩ | exact ⟨_, rfl⟩
        · go_round
          case rel => go_light; exact ⟨k + 1, _, by omega, by go_num, rfl, by omega, by omega⟩
          case measure => go_light; simp [intOf]; omega
      · go_wp2
        all_goals
          go_ret
          first | exact ⟨rfl, _, rfl⟩ | exact ⟨_, rfl⟩
  · go_enter Try.func7, Try.ntmps7
    go_wp2
    go_ret
    first | exact ⟨rfl, _, rfl⟩ | exact ⟨_, rfl⟩

theorem Try.info35 : (Try.prog.info? 35).map (fun i => (i.zero, i.size, i.bytes)) = some (some (.int .u64 0), 1, 8) := by kernel_rfl

def uv (l : List Nat) : List Value := l.map fun n : Nat => Value.int .u64 (n : Int)
theorem uv_length (l : List Nat) : (uv l).length = l.length := by simp [uv]
theorem uv_get (l : List Nat) (i : Nat) : (uv l)[i]? = (l[i]?).map fun n : Nat => Value.int .u64 (n : Int) := by simp [uv]

theorem f_step {wr : World} {base g n cap : Nat} {L : List Nm} {k : Nat} (h : wr.ownsRow base 35 1 (.slice (some ⟨g, 0, none⟩) n cap) n (uv (frow L k))) (hk : k < L.length) :
    (wr.setCell ⟨g, k, none⟩ (.int .u64 (fv L k : Nat))).ownsRow base 35 1 (.slice (some ⟨g, 0, none⟩) n cap) n (uv (frow L (k + 1))) := by
  have := (h.stored k (.int .u64 (fv L k : Nat))).1
  have e : uv (frow L (k + 1)) = (uv (frow L k)).set k (.int .u64 (fv L k : Nat)) := by rw [← frow_next L k hk]; simp [uv]
  rw [e]; exact this

theorem own_block {w : World} {base e g n : Nat} {xs : List Value} (h : w.ownsRow base e 1 (.slice (some ⟨g, 0, none⟩) n n) n xs) : w.heap[g]? = some (.cells xs.toArray e (0, 0)) := by
  obtain ⟨hl, h | ⟨g', cap, cur, hv, hb, hh, _, _, hs, ht⟩⟩ := h
  · cases h.1
  · cases hv
    rw [hh]
    rw [List.take_of_length_le (by simp [hs])] at ht
    rw [← ht]

theorem of_again (sb : Nat) (R : List Nm) (s : ByteArray) (g : Nat) (w : World) (h : Ali w sb R) (hs : s.size ≤ maxLen) (hl : R.length < 4294967295) (hin : step R (nm s) = R) (hg : ali R (nm s) = g) :
    Calls Try.prog 6 #[.pointer (some ⟨sb, 0, none⟩), .string s] w fun e w' => e = .returned (.int .u64 (g : Nat)) ∧ Ali w' sb R ∧ Kept sb w w' := by
  have := of_any sb R s w h hs hl
  rw [hin, hg] at this
  exact this

set_option maxRecDepth 100000 in
set_option maxHeartbeats 1000000 in
theorem again_walk (ao : Option Addr) (len cap : Nat) (ss : List ByteArray) (x : ByteArray) (w : World) (h : ArgS w ao len ss) (hcap : len ≤ cap) (hm : cap ≤ maxLen) (hx : x.size ≤ maxLen) :
    Calls Try.prog 4 #[.slice ao len cap, .string x] w fun e w' => e = .returned (.bool true) ∧ Below w.heap.size w w' := by
  have H : Hid (ArgS w ao len ss) := h
  clear h
  by_cases hl : len ≤ 65536
  · by_cases hxl : x.size ≤ 65536
    · have hl' : decide ((65536 : Int) < (len : Int)) = false := by simp; omega
      obtain ⟨L, hL⟩ : ∃ L, L = ss.map nm := ⟨_, rfl⟩
      have HL : Hid (L = ss.map nm) := hL
      have HLl : Hid (L.length = len) := by show _ = _; rw [hL]; simp [H.out.len_eq]
      clear hL
      go_enter Try.func4, Try.ntmps4
      go_wp2_with (go_at_call 7; refine (bytes2_any _ _ _ _ _ _ H.out hcap hm hx).mono ?_; rintro e w' ⟨rfl, r, rfl⟩)
      · go_ret; exact ⟨rfl, Below.refl _ _⟩
      go_loop [5, 6] (fun z i => ∃ (k : Nat) (y : Int), k ≤ len ∧ i = .int .i64 k ∧ z = .int .i64 y) (fun _ i => len - (intOf i).toNat)
      case atStart => exact ⟨0, _, Nat.zero_le _, rfl, rfl⟩
      case round =>
        obtain ⟨k, y, hk, rfl, rfl⟩ := hrel
        by_cases hkl : k < len
        · obtain ⟨b, off, rfl, s, hs, hss, hc⟩ := H.out.cell hkl
          have HS : Hid (ss[k]? = some s) := hs
          unfold maxLen at hss
          clear hs
          go_wp2
          · go_ret; exact ⟨rfl, Below.refl _ _⟩
          · go_round
            case rel => go_light; exact ⟨k + 1, _, by omega, by go_num, rfl⟩
            case measure => go_light; simp [intOf]; omega
        · obtain ⟨i0, hi, hz0, hz1, hz2⟩ := info_parts Try.info35
          go_wp2_with (first
            | (at_make; refine wpList_make_full _ rfl _ _ 38 rfl (w.heap.size + 1) 35 i0 (.int .u64 0) 1 Try.underlying38 hi hz0 hz1 .i64 .i64 _ _ len rfl rfl rfl rfl (by rw [hz2]; omega) (by unfold maxLen; omega) (by simp) ?_; intro w2 hown2 hgrow2))
          have hsz : (w.alloc (.cells #[.int .i32 0, .int .u32 0, .map none] 34)).heap.size = w.heap.size + 1 := by simp
          rw [hsz] at hown2
          have HO2 : Hid (w2.ownsRow (w.heap.size + 1) 35 1 (.slice (some ⟨w.heap.size + 1, 0, none⟩) len len) len (uv (frow L 0))) := by
            have e : (madeCells (Value.int .u64 0).cells (len * 1)).toList = uv (frow L 0) := by
              rw [show (Value.int .u64 0).cells = #[Value.int .u64 0] from rfl, Nat.mul_one, toList_madeCells_one]
              simp [frow, uv, HLl.out]
            rw [e] at hown2
            exact hown2
          have HB2 : Hid (Below w.heap.size w w2) := ((Below.refl _ _).alloc (Nat.le_refl _) _).grown hgrow2 (by simp) (by simp)
          have HA2 : Hid (Ali w2 w.heap.size (run (L.take 0))) := by
            refine ⟨⟨_, ?_, .inl ⟨by simp [run], rfl⟩⟩⟩
            rw [hgrow2.block w.heap.size (by simp) (by simp)]
            exact (MapKept.heap_alloc w _).1
          clear hown2 hgrow2 hsz
          go_loopw [9, 10, 11, 12] (fun lg fd xa i wr => ∃ (k : Nat), k ≤ len ∧ i = .int .i64 k ∧ lg = .int .u64 (rl L k : Nat) ∧ fd = .bool (fnd L (nm x) k) ∧ xa = .int .u64 (xal L (nm x) k : Nat) ∧ Hid (wr.ownsRow (w.heap.size + 1) 35 1 (.slice (some ⟨w.heap.size + 1, 0, none⟩) len len) len (uv (frow L k))) ∧ Hid (Ali wr w.heap.size (run (L.take k))) ∧ Hid (Below w.heap.size w wr)) (fun _ _ _ i _ => len - (intOf i).toNat)
          case atStart => exact ⟨0, Nat.zero_le _, rfl, by simp [rl, run], by simp [fnd], by simp [xal], HO2, HA2, HB2⟩
          case round =>
            obtain ⟨q, hq, rfl, rfl, rfl, rfl, HO, HA, HB⟩ := hrel
            by_cases hql : q < len
            · obtain ⟨b, off, rfl, s, hs, hss, hc0⟩ := H.out.cell hql
              have hlt : b < w.heap.size := block_lt_of_cell hc0
              have hc : wr.cell? ⟨b, off + q, none⟩ = some (.string s) := (HB.out.cell (p := ⟨b, off + q, none⟩) hlt).trans hc0
              have HC0 : Hid _ := hc0
              have HLq : Hid (L[q]? = some (nm s)) := by show _ = _; rw [HL.out, List.getElem?_map, hs]; rfl
              clear hc0 hs
              have hrl := rl_le L q
              obtain ⟨g, hg⟩ : ∃ g, ali (run (L.take q)) (nm s) = g := ⟨_, rfl⟩
              have HG : Hid (ali (run (L.take q)) (nm s) = g) := hg
              have HF : Hid (fv L q = g) := by show _ = _; rw [fv_eq HLq.out, hg]
              have hgle : g ≤ q + 1 := by rw [← HF.out]; exact fv_le L q
              go_wp2_with fail
              refine (of_any _ (run (L.take q)) s _ HA.out hss (by have := rl_le L q; unfold rl at this; omega)).mono ?_
              rintro e w3 ⟨rfl, hA3, hK3⟩
              rw [hg]
              clear hg
              have HA3 : Hid (Ali w3 w.heap.size (run (L.take (q + 1)))) := by
                rw [run_take_succ HLq.out]; exact hA3
              have HB3 : Hid (Below w.heap.size w w3) := HB.out.trans hK3.below
              have HO3 : Hid (w3.ownsRow (w.heap.size + 1) 35 1 (.slice (some ⟨w.heap.size + 1, 0, none⟩) len len) len (uv (frow L q))) := owns_kept HO.out hK3 (show w.heap.size + 1 ≠ w.heap.size by omega)
              have hc3 : w3.cell? ⟨b, off + q, none⟩ = some (.string s) := (HB3.out.cell (p := ⟨b, off + q, none⟩) hlt).trans HC0.out
              obtain ⟨old, hold⟩ : ∃ old, w3.cell? ⟨w.heap.size + 1, q, none⟩ = some (.int .u64 old) := by
                rw [HO3.out.cellAt q (by omega), uv_get]
                rw [List.getElem?_eq_getElem (show q < (frow L q).length by rw [frow_length _ _ (by rw [HLl.out]; omega), HLl.out]; exact hql)]
                exact ⟨_, rfl⟩
              have hfz := HO3.out.frozenAt q
              clear hA3 hK3 HO HA HB hc
              have HA3X : Hid (Ali (w3.setCell ⟨w.heap.size + 1, q, none⟩ (.int .u64 (g : Nat))) w.heap.size (run (L.take (q + 1)))) :=
                HA3.out.grown (HO3.out.stored q (.int .u64 (g : Nat))).2 (by intro k' hk'; cases hk'; exact ⟨by omega, owns_row HO3.out⟩)
              by_cases hM : nm s ∈ run (L.take q)
              · have HM : Hid (nm s ∈ run (L.take q)) := hM
                have hgl : ¬ rl L q < g := by have := ali_old hM; rw [HG.out] at this; omega
                clear hM
                cases hf : fnd L (nm x) q
                · have Hf : Hid (fnd L (nm x) q = false) := hf
                  cases heq : (s.toList == x.toList)
                  · have HE : Hid (nm s ≠ nm x) := by
                      show _ ≠ _
                      rw [← toList_nm, ← toList_nm]; simpa using heq
                    go_wp2
                    go_roundw
                    case rel =>
                      go_light
                      refine ⟨q + 1, by omega, by go_num, ?_, ?_, ?_, by rw [← HF.out]; exact f_step HO3.out (by rw [HLl.out]; exact hql), HA3X, HB3.out.setCell (p := ⟨w.heap.size + 1, q, none⟩) (Nat.le_succ _) _⟩
                      · rw [rl_old HLq.out HM.out]
                      · rw [(fnd_not HLq.out Hf.out HE.out).1]
                      · rw [(fnd_not HLq.out Hf.out HE.out).2]
                    case measure => go_light; simp [intOf]; omega
                  · have HE : Hid (nm s = nm x) := by
                      show _ = _
                      rw [← toList_nm, ← toList_nm]; simpa using heq
                    go_wp2
                    go_roundw
                    case rel =>
                      go_light
                      refine ⟨q + 1, by omega, by go_num, ?_, ?_, ?_, by rw [← HF.out]; exact f_step HO3.out (by rw [HLl.out]; exact hql), HA3X, HB3.out.setCell (p := ⟨w.heap.size + 1, q, none⟩) (Nat.le_succ _) _⟩
                      · rw [rl_old HLq.out HM.out]
                      · rw [(fnd_now (x := nm x) (by rw [HLq.out, HE.out])).1]
                      · rw [(fnd_now (x := nm x) (by rw [HLq.out, HE.out])).2]; rw [← HG.out, HE.out]
                    case measure => go_light; simp [intOf]; omega
                · have Hf : Hid (fnd L (nm x) q = true) := hf
                  go_wp2
                  go_roundw
                  case rel =>
                    go_light
                    refine ⟨q + 1, by omega, by go_num, ?_, ?_, ?_, by rw [← HF.out]; exact f_step HO3.out (by rw [HLl.out]; exact hql), HA3X, HB3.out.setCell (p := ⟨w.heap.size + 1, q, none⟩) (Nat.le_succ _) _⟩
                    · rw [rl_old HLq.out HM.out]
                    · rw [(fnd_hit HLq.out Hf.out).1]
                    · rw [(fnd_hit HLq.out Hf.out).2]
                  case measure => go_light; simp [intOf]; omega
              · have HM : Hid (¬ nm s ∈ run (L.take q)) := hM
                have hgl : rl L q < g := by have := ali_fresh hM; rw [HG.out] at this; omega
                clear hM
                cases hf : fnd L (nm x) q
                · have Hf : Hid (fnd L (nm x) q = false) := hf
                  cases heq : (s.toList == x.toList)
                  · have HE : Hid (nm s ≠ nm x) := by
                      show _ ≠ _
                      rw [← toList_nm, ← toList_nm]; simpa using heq
                    go_wp2
                    go_roundw
                    case rel =>
                      go_light
                      refine ⟨q + 1, by omega, by go_num, ?_, ?_, ?_, by rw [← HF.out]; exact f_step HO3.out (by rw [HLl.out]; exact hql), HA3X, HB3.out.setCell (p := ⟨w.heap.size + 1, q, none⟩) (Nat.le_succ _) _⟩
                      · rw [rl_new HLq.out HM.out, ← HG.out, ali_fresh HM.out]
                      · rw [(fnd_not HLq.out Hf.out HE.out).1]
                      · rw [(fnd_not HLq.out Hf.out HE.out).2]
                    case measure => go_light; simp [intOf]; omega
                  · have HE : Hid (nm s = nm x) := by
                      show _ = _
                      rw [← toList_nm, ← toList_nm]; simpa using heq
                    go_wp2
                    go_roundw
                    case rel =>
                      go_light
                      refine ⟨q + 1, by omega, by go_num, ?_, ?_, ?_, by rw [← HF.out]; exact f_step HO3.out (by rw [HLl.out]; exact hql), HA3X, HB3.out.setCell (p := ⟨w.heap.size + 1, q, none⟩) (Nat.le_succ _) _⟩
                      · rw [rl_new HLq.out HM.out, ← HG.out, ali_fresh HM.out]
                      · rw [(fnd_now (x := nm x) (by rw [HLq.out, HE.out])).1]
                      · rw [(fnd_now (x := nm x) (by rw [HLq.out, HE.out])).2]; rw [← HG.out, HE.out]
                    case measure => go_light; simp [intOf]; omega
                · have Hf : Hid (fnd L (nm x) q = true) := hf
                  go_wp2
                  go_roundw
                  case rel =>
                    go_light
                    refine ⟨q + 1, by omega, by go_num, ?_, ?_, ?_, by rw [← HF.out]; exact f_step HO3.out (by rw [HLl.out]; exact hql), HA3X, HB3.out.setCell (p := ⟨w.heap.size + 1, q, none⟩) (Nat.le_succ _) _⟩
                    · rw [rl_new HLq.out HM.out, ← HG.out, ali_fresh HM.out]
                    · rw [(fnd_hit HLq.out Hf.out).1]
                    · rw [(fnd_hit HLq.out Hf.out).2]
                  case measure => go_light; simp [intOf]; omega
            · have HLq : Hid (L.take q = L) := by
                show _ = _
                exact List.take_of_length_le (by rw [HLl.out]; omega)
              have hqe : q = L.length := by rw [HLl.out]; omega
              obtain ⟨A, hA⟩ : ∃ A, ali (run L) (nm x) = A := ⟨_, rfl⟩
              have HAe : Hid (ali (run L) (nm x) = A) := hA
              have HW1 : Hid (fnd L (nm x) q = true → xal L (nm x) q = A) := by
                intro h; rw [hqe] at h ⊢; rw [want_hit h, hA]
              have HW2 : Hid (fnd L (nm x) q = false → rl L q + 1 = A) := by
                intro h; rw [hqe] at h ⊢; rw [want_miss h, hA]
              have HO1 : Hid (wr.ownsRow (w.heap.size + 1) 35 1 (.slice (some ⟨w.heap.size + 1, 0, none⟩) len len) len (uv (frow L L.length))) := by
                rw [← hqe]; exact HO
              have HA1 : Hid (Ali wr w.heap.size (run L)) := by
                have := HA.out; rwa [HLq.out] at this
              have hrl := rl_le L q
              have hAle : A ≤ len + 1 := by
                rw [← hA]; have h1 := ali_le (run L) (nm x); have h2 := run_length L; have h3 := HLl.out; omega
              have HRl : Hid ((run L).length ≤ len) := by
                show _ ≤ _
                have h2 := run_length L; have h3 := HLl.out; omega
              clear hA hqe HO HA HLq
              go_upto_if 86 with fail
              go_cut [10, 14] (fun _ v wc => v = .int .u64 (A : Nat) ∧ wr = wc)
              case first =>
                cases hf : fnd L (nm x) q
                · have he := HW2.out hf
                  have HE : Hid _ := he
                  clear he
                  go_wp2
                  go_meet
                  case rel => go_light; exact ⟨by rw [← HE.out]; go_num, rfl⟩
                · have he := HW1.out hf
                  have HE : Hid _ := he
                  clear he
                  go_wp2
                  go_meet
                  case rel => go_light; exact ⟨by rw [← HE.out], rfl⟩
              case rest =>
                obtain ⟨rfl, rfl⟩ := hcut
                clear HW1 HW2
                have HB1 : Hid (Below w.heap.size w wr) := HB
                go_wp2_with fail
                refine (of_any _ (run L) x _ HA1.out hx (by have := HRl.out; omega)).mono ?_
                rintro e w4 ⟨rfl, hA4, hK4⟩
                rw [HAe.out]
                have HA4 : Hid (Ali w4 w.heap.size (step (run L) (nm x))) := hA4
                have HB4 : Hid (Below w.heap.size w w4) := HB1.out.trans hK4.below
                have HO4 : Hid (w4.ownsRow (w.heap.size + 1) 35 1 (.slice (some ⟨w.heap.size + 1, 0, none⟩) len len) len (uv (frow L L.length))) := owns_kept HO1.out hK4 (show w.heap.size + 1 ≠ w.heap.size by omega)
                clear hA4 hK4 HO1 HA1 HB1 HB
                have HSl : Hid ((step (run L) (nm x)).length < 4294967295) := by
                  show _ < _
                  have h1 := step_length (run L) (nm x); have h2 := HRl.out; omega
                go_wp2_with fail
                refine (of_any _ (step (run L) (nm x)) x _ HA4.out hx HSl.out).mono ?_
                rintro e w5 ⟨rfl, hA5, hK5⟩
                rw [ali_self, HAe.out]
                have HA5 : Hid (Ali w5 w.heap.size (step (run L) (nm x))) := by
                  rw [step_mem (by rw [mem_step]; exact .inr rfl)] at hA5; exact hA5
                have HB5 : Hid (Below w.heap.size w w5) := HB4.out.trans hK5.below
                have HO5 : Hid (w5.ownsRow (w.heap.size + 1) 35 1 (.slice (some ⟨w.heap.size + 1, 0, none⟩) len len) len (uv (frow L L.length))) := owns_kept HO4.out hK5 (show w.heap.size + 1 ≠ w.heap.size by omega)
                clear hA5 hK5 HO4 HA4 HB4
                go_wp2
                go_loopw [17] (fun i wr => ∃ (k : Nat), k ≤ len ∧ i = .int .i64 k ∧ Hid (wr.ownsRow (w.heap.size + 1) 35 1 (.slice (some ⟨w.heap.size + 1, 0, none⟩) len len) len (uv (frow L L.length))) ∧ Hid (Ali wr w.heap.size (step (run L) (nm x))) ∧ Hid (Below w.heap.size w wr)) (fun i _ => len - (intOf i).toNat)
                case atStart => exact ⟨0, Nat.zero_le _, rfl, HO5, HA5, HB5⟩
                case round =>
                  obtain ⟨q, hq, rfl, HO, HA, HB⟩ := hrel
                  by_cases hql : q < len
                  · obtain ⟨b, off, rfl, s, hs, hss, hc0⟩ := H.out.cell hql
                    have hlt : b < w.heap.size := block_lt_of_cell hc0
                    have hc : wr.cell? ⟨b, off + q, none⟩ = some (.string s) := (HB.out.cell (p := ⟨b, off + q, none⟩) hlt).trans hc0
                    have HLq : Hid (L[q]? = some (nm s)) := by show _ = _; rw [HL.out, List.getElem?_map, hs]; rfl
                    clear hc0 hs
                    obtain ⟨g, hg⟩ : ∃ g, fv L q = g := ⟨_, rfl⟩
                    have HG : Hid (ali (step (run L) (nm x)) (nm s) = g) := by
                      show _ = _
                      rw [ali_end HLq.out, ← fv_eq HLq.out, hg]
                    have HF : Hid (∀ wy : World, wy.ownsRow (w.heap.size + 1) 35 1 (.slice (some ⟨w.heap.size + 1, 0, none⟩) len len) len (uv (frow L L.length)) → wy.cell? ⟨w.heap.size + 1, q, none⟩ = some (.int .u64 (g : Nat))) := by
                      intro wy h
                      rw [h.cellAt q (by omega), uv_get, frow_get L L.length q (by rw [HLl.out]; exact hql), hg]; rfl
                    have hcf := HF.out wr HO.out
                    have hne : ((g : Int) != (g : Int)) = false := by simp
                    clear hg
                    have HMem : Hid (step (step (run L) (nm x)) (nm s) = step (run L) (nm x)) := by
                      show _ = _
                      exact step_mem ((mem_step _ _ _).2 (.inl ((mem_run _ _).2 (List.mem_of_getElem? HLq.out))))
                    go_wp2
                    go_region_with (go_at_call 6; refine (of_again w.heap.size (step (run L) (nm x)) s g _ ?_ hss HSl.out HMem.out HG.out).mono ?_; exact ⟨HA.out.box⟩; rintro e w6 ⟨rfl, hA6, hK6⟩; have HO6 : Hid (w6.ownsRow (w.heap.size + 1) 35 1 (.slice (some ⟨w.heap.size + 1, 0, none⟩) len len) len (uv (frow L L.length))) := owns_kept (by exact HO.out) hK6 (show w.heap.size + 1 ≠ w.heap.size by omega); have HA6 : Hid (Ali w6 w.heap.size (step (run L) (nm x))) := hA6; have HB6 : Hid (Below w.heap.size w w6) := HB.out.drew.trans hK6.below; have hcf6 := HF.out w6 HO6.out; clear hA6 hK6)
                    all_goals
                      go_wp2
                      go_roundw
                      case rel => go_light; exact ⟨q + 1, by omega, by go_num, by assumption, by assumption, by assumption⟩
                      case measure => go_light; simp [intOf]; omega
                  · go_wp2
                    go_ret
                    exact ⟨rfl, HB.out⟩
    · have hl' : decide ((65536 : Int) < (len : Int)) = false := by simp; omega
      go_enter Try.func4, Try.ntmps4
      go_wp2_with (go_at_call 7; refine (bytes2_any _ _ _ _ _ _ H.out hcap hm hx).mono ?_; rintro e w' ⟨rfl, r, rfl⟩)
      · go_ret; exact ⟨rfl, Below.refl _ _⟩
      · go_ret; exact ⟨rfl, Below.refl _ _⟩
  · have hl' : decide ((65536 : Int) < (len : Int)) = true := by simp; omega
    go_enter Try.func4, Try.ntmps4
    go_wp2_with (go_at_call 7; refine (bytes2_any _ _ _ _ _ _ H.out hcap hm hx).mono ?_; rintro e w' ⟨rfl, r, rfl⟩)
    · go_ret; exact ⟨rfl, Below.refl _ _⟩
    · go_ret; exact ⟨rfl, Below.refl _ _⟩

end Go.Proofs.Qxb6628448a

import Derived.Test.Qxb6628382aWalk1
import Derived.WalkSpells
import Derived.Laws.CopyOwn
import Derived.Laws.IdiomStrings
import Derived.Deep.DeepCutAuto
import Derived.OpenShut
namespace Go.Proofs.Qxb6628382a
open Go.ChangeShapes Go.WideShapes Go.ChangeAt Go.RowKit
set_option linter.unusedVariables false

def bv (l : List UInt8) : List Value := l.map fun c => Value.int .u8 (c.toNat : Int)
theorem bv_length (l : List UInt8) : (bv l).length = l.length := by simp [bv]
theorem bv_get (l : List UInt8) (i : Nat) : (bv l)[i]? = (l[i]?).map fun c => Value.int .u8 (c.toNat : Int) := by simp [bv]
theorem bv_one (l : List UInt8) : ∀ u ∈ bv l, u.oneCell' = true := by
  intro u hu
  obtain ⟨_, _, rfl⟩ := List.mem_map.1 hu
  rfl
theorem bv_append (a b : List UInt8) : bv (a ++ b) = bv a ++ bv b := by simp [bv]

structure Arg (w : World) (ao : Option Addr) (len cap : Nat) (bs : List UInt8) : Prop where
  rd : RdB w ao bs
  len_eq : bs.length = len
  le : len ≤ cap
  max : cap ≤ maxLen
  nil : ao = none → len = 0 ∧ cap = 0

theorem RdB.below {w w' : World} {ao : Option Addr} {bs : List UInt8} (h : RdB w ao bs) (hb : Below w.heap.size w w') : RdB w' ao bs := by
  rcases h with h | ⟨b, off, rfl, hc⟩
  · exact .inl h
  · refine .inr ⟨b, off, rfl, fun k c hk => ?_⟩
    have h := hc k c hk
    have hlt : b < w.heap.size := by
      apply Classical.byContradiction
      intro hn
      simp [World.cell?, Array.getElem?_eq_none (show w.heap.size ≤ b by omega)] at h
    rw [hb.cell (by exact hlt)]
    exact h

theorem RdB.of_owns {w : World} {base g n cap : Nat} {bs : List UInt8} (h : w.ownsRow base 5 1 (.slice (some ⟨g, 0, none⟩) n cap) n (bv bs)) : RdB w (some ⟨g, 0, none⟩) bs := by
  refine .inr ⟨g, 0, rfl, fun k c hk => ?_⟩
  have hl : bs.length = n := by have := h.1; rw [bv_length] at this; omega
  have hk' := (List.getElem?_eq_some_iff.1 hk).1
  have := h.cellAt k (by omega)
  rw [Nat.zero_add, this, bv_get, hk]; rfl

theorem RdB.of_block {w : World} {g : Nat} {bs : List UInt8} {t : TypeId} (h : w.heap[g]? = some (.cells (bv bs).toArray t (0, 0))) : RdB w (some ⟨g, 0, none⟩) bs := by
  refine .inr ⟨g, 0, rfl, fun k c hk => ?_⟩
  have hk' := (List.getElem?_eq_some_iff.1 hk).1
  rw [Nat.zero_add, cell_of_row w g k _ t _ h]; simp [bv_get, hk]

theorem own_block {w : World} {base e g n : Nat} {xs : List Value} (h : w.ownsRow base e 1 (.slice (some ⟨g, 0, none⟩) n n) n xs) : w.heap[g]? = some (.cells xs.toArray e (0, 0)) := by
  obtain ⟨hl, h | ⟨g', cap, cur, hv, hb, hh, _, _, hs, ht⟩⟩ := h
  · cases h.1
  · cases hv
    rw [hh]
    rw [List.take_of_length_le (by simp [hs])] at ht
    rw [← ht]

theorem made_block {w : World} {base e g n : Nat} {z : Value} (hz : z.cells = #[z]) (h : w.ownsRow base e 1 (.slice (some ⟨g, 0, none⟩) n n) n (madeCells z.cells (n * 1)).toList) : w.heap[g]? = some (.cells (List.replicate n z).toArray e (0, 0)) := by
  have := own_block h
  rwa [hz, Nat.mul_one, toList_madeCells_one] at this

theorem owns_of_block {w : World} {base e g n : Nat} {xs : List Value} (h : w.heap[g]? = some (.cells xs.toArray e (0, 0))) (hb : base ≤ g) (hn : xs.length = n) (hm : n ≤ maxLen) : w.ownsRow base e 1 (.slice (some ⟨g, 0, none⟩) n n) n xs :=
  ⟨by omega, .inr ⟨g, n, xs.toArray, rfl, hb, h, Nat.le_refl _, hm, by simp [hn], by simp [← hn]⟩⟩

theorem splice_all {cur cs : List Value} (h : cs.length = cur.length) : splice cur 0 cs = cs := by
  simp [splice, h]

theorem copy_pos {w : World} {ao : Option Addr} {bs : List UInt8} (h : RdB w ao bs) (g : Nat) :
    0 < (bv bs).length → (some ⟨g, 0, none⟩ : Option Addr) = some ⟨g, 0, none⟩ ∧ ∃ ad, ao = some ad ∧ ∀ j v, (bv bs)[j]? = some v → w.cell? (ad.add j) = some v := by
  intro hp
  refine ⟨rfl, ?_⟩
  rcases h with h | ⟨b, off, rfl, hc⟩
  · subst h; simp [bv] at hp
  · refine ⟨_, rfl, fun j v hj => ?_⟩
    rw [bv_get] at hj
    cases hb : bs[j]? with
    | none => rw [hb] at hj; simp at hj
    | some c => rw [hb] at hj; simp at hj; rw [Addr.add_lit, hc j c hb, hj]

theorem app_src {w : World} {ao : Option Addr} {bs : List UInt8} (h : RdB w ao bs) :
    ∀ ad, ao = some ad → ∀ j u, (bv bs)[j]? = some u → w.cell? (ad.add j) = some u := by
  intro ad had j v hj
  rcases h with h | ⟨b, off, rfl, hc⟩
  · subst h; simp [bv] at hj
  · cases had
    rw [bv_get] at hj
    cases hb : bs[j]? with
    | none => rw [hb] at hj; simp at hj
    | some c => rw [hb] at hj; simp at hj; rw [Addr.add_lit, hc j c hb, hj]

theorem Arg.below {w w' : World} {ao : Option Addr} {n c : Nat} {bs : List UInt8} (h : Arg w ao n c bs) (hb : Below w.heap.size w w') : Arg w' ao n c bs :=
  ⟨h.rd.below hb, h.len_eq, h.le, h.max, h.nil⟩

theorem noUp_next {b : List UInt8} {k : Nat} {c : UInt8} (h : b[k]? = some c) : noUp (b.take (k + 1)) = (noUp (b.take k) && !up c) := by
  rw [List.take_add_one, h]; simp [noUp]

theorem Arg.cell {w : World} {ao : Option Addr} {n cap : Nat} {bs : List UInt8} (h : Arg w ao n cap bs) {k : Nat} (hk : k < n) :
    ∃ b off, ao = some ⟨b, off, none⟩ ∧ ∃ c, bs[k]? = some c ∧ w.cell? ⟨b, off + k, none⟩ = some (.int .u8 (c.toNat : Int)) := by
  have hl := h.len_eq
  rcases h.rd with h | ⟨b, off, rfl, hc⟩
  · subst h; simp at hl; omega
  · refine ⟨b, off, rfl, bs[k]'(by omega), List.getElem?_eq_getElem (by omega), hc k _ (List.getElem?_eq_getElem (by omega))⟩

theorem Arg.of_owns {w : World} {base g n cap : Nat} {bs : List UInt8} (h : w.ownsRow base 5 1 (.slice (some ⟨g, 0, none⟩) n cap) n (bv bs)) (h1 : n ≤ cap) (h2 : cap ≤ maxLen) : Arg w (some ⟨g, 0, none⟩) n cap bs :=
  ⟨.of_owns h, by have := h.1; rw [bv_length] at this; omega, h1, h2, fun hh => by cases hh⟩

theorem toList_mk (l : List UInt8) : (⟨l.toArray⟩ : ByteArray).data.toList = l := by simp
theorem size_mk (l : List UInt8) : (⟨l.toArray⟩ : ByteArray).size = l.length := by simp [ByteArray.size]

def qrow (l : List UInt8) (k : Nat) : List UInt8 := (l.take k).map qq ++ List.replicate (l.length - k) 0
theorem qrow_zero (l : List UInt8) : bv (qrow l 0) = List.replicate l.length (Value.int .u8 0) := by simp [qrow, bv]
theorem qrow_all (l : List UInt8) : qrow l l.length = l.map qq := by simp [qrow]
theorem qrow_length (l : List UInt8) (k : Nat) (h : k ≤ l.length) : (qrow l k).length = l.length := by simp [qrow]; omega
theorem qrow_next (l : List UInt8) (k : Nat) (c : UInt8) (h : l[k]? = some c) : (bv (qrow l k)).set k (.int .u8 ((qq c).toNat : Int)) = bv (qrow l (k + 1)) := by
  have hk := (List.getElem?_eq_some_iff.1 h).1
  have e : bv ((qrow l k).set k (qq c)) = (bv (qrow l k)).set k (.int .u8 ((qq c).toNat : Int)) := by simp [bv]
  rw [← e]
  congr 1
  unfold qrow
  rw [List.take_add_one, h, List.set_append]
  have hl : ((l.take k).map qq).length = k := by simp; omega
  rw [hl, if_neg (by omega), Nat.sub_self]
  have : l.length - k = (l.length - (k + 1)) + 1 := by omega
  rw [this, List.replicate_succ]
  simp

theorem q_step {wr : World} {base g n cap : Nat} {l : List UInt8} {k : Nat} {c : UInt8} {v : Int} (h : wr.ownsRow base 5 1 (.slice (some ⟨g, 0, none⟩) n cap) n (bv (qrow l k))) (hd : l[k]? = some c) (hv : v = ((qq c).toNat : Int)) :
    (wr.setCell ⟨g, k, none⟩ (.int .u8 v)).ownsRow base 5 1 (.slice (some ⟨g, 0, none⟩) n cap) n (bv (qrow l (k + 1))) := by
  have := (h.stored k (.int .u8 v)).1
  rw [hv, qrow_next l k c hd] at this
  rw [hv]; exact this

theorem Try.info5 : (Try.prog.info? 5).map (fun i => (i.zero, i.size, i.bytes)) = some (some (.int .u8 0), 1, 1) := by kernel_rfl

theorem conv_any {w : World} {ao : Option Addr} {bs : List UInt8} {n : Nat} (cap : Nat) (h : RdB w ao bs) (hn : bs.length = n) :
    (convert 22 9 (.slice ao n cap)).run Try.prog w = .ok (.string ⟨bs.toArray⟩) w := by
  subst hn
  rcases h with h | ⟨b, off, rfl, hc⟩
  · subst h
    rw [run_convert_bytes_string w 22 9 5 ao _ cap Try.underlying22 Try.underlying5 Try.underlying9]
    cases ao <;> simp [Conv.bytesToString, loadCells] <;> rfl
  · refine run_convert_bytes_back w 22 9 5 ⟨b, off, none⟩ cap bs Try.underlying22 Try.underlying5 Try.underlying9 ?_
    intro j hj
    have := hc j bs[j] (by simp [hj])
    rw [Addr.add_lit]; exact this

def IsRow (k : IntKind) (w : World) (a : Option Addr) (len cap : Nat) (zs : List Int) : Prop :=
  (a = none ∧ len = 0 ∧ cap = 0 ∧ zs = []) ∨
  ∃ x, a = some x ∧ len ≤ cap ∧ cap ≤ maxLen ∧ zs.length = cap ∧ (∀ i, i < zs.length → w.cell? (x.add i) = some (.int k (zs.getD i 0))) ∧ ∀ n ∈ zs, (Lit.int k n).wf = true

theorem IsRow.arg {w : World} {a : Option Addr} {len cap : Nat} {zs : List Int} (h : IsRow .u8 w a len cap zs) : ∃ bs, Arg w a len cap bs := by
  rcases h with ⟨rfl, rfl, rfl, rfl⟩ | ⟨x, rfl, hl, hm, hz, hc, hw⟩
  · exact ⟨[], .inl rfl, rfl, Nat.le_refl _, Nat.zero_le _, fun _ => ⟨rfl, rfl⟩⟩
  · refine ⟨(zs.take len).map fun n => UInt8.ofNat n.toNat, ?_, by simp; omega, hl, hm, fun h => by cases h⟩
    by_cases h0 : len = 0
    · subst h0; exact .inl (by simp)
    · have hp : 0 < zs.length := by omega
      obtain ⟨b, off, rfl, _⟩ := ints_at hc hp
      refine .inr ⟨b, off, rfl, fun k c hk => ?_⟩
      have hk' : k < len := by
        have := (List.getElem?_eq_some_iff.1 hk).1
        simp at this; omega
      have := hc k (by omega)
      rw [Addr.add_lit] at this
      rw [this]
      have hg : zs[k]? = some (zs.getD k 0) := by simp [List.getD, List.getElem?_eq_getElem (show k < zs.length by omega)]
      simp only [List.getElem?_map, List.getElem?_take, if_pos hk', hg, Option.map_some, Option.some.injEq] at hk
      have hb := bounds_u8 (hw _ (List.mem_of_getElem? hg))
      rw [← hk]
      congr 2
      rw [UInt8.toNat_ofNat']
      omega

set_option maxRecDepth 100000 in
set_option maxHeartbeats 400000 in
theorem self_walk (a0 : Option Addr) (len0 cap0 : Nat) (b0 : List UInt8) (a1 : Option Addr) (len1 cap1 : Nat) (b1 : List UInt8) (s : ByteArray) (w : World) (h0 : Arg w a0 len0 cap0 b0) (h1 : Arg w a1 len1 cap1 b1) (h2 : s.size ≤ maxLen) :
    Calls Try.prog 4 #[.slice a0 len0 cap0, .slice a1 len1 cap1, .string s] w fun e w' => e = .returned (.bool true) ∧ Below w.heap.size w w' := by
  have H0 : Hid (Arg w a0 len0 cap0 b0) := h0
  have H1 : Hid (Arg w a1 len1 cap1 b1) := h1
  have l0 := h0.le
  have m0 := h0.max
  have l1 := h1.le
  have m1 := h1.max
  clear h0 h1
  have hneq := fun wx n c => run_neq_slice_nil_any (P := Try.prog) wx 22 5 a0 len0 cap0 n c Try.underlying22
  go_enter Try.func4, Try.ntmps4
  go_upto_if 35 with (go_at_call 10; refine (bytes2_any _ _ _ _ _ _ _ _ l0 m0 l1 m1 h2).mono ?_; rintro e w' ⟨r, rfl, rfl⟩)
  · go_ret; exact ⟨rfl, Below.refl _ _⟩
  · go_ret; exact ⟨rfl, Below.refl _ _⟩
  · go_ret; exact ⟨rfl, Below.refl _ _⟩
  · go_ret; exact ⟨rfl, Below.refl _ _⟩
  go_cut [0] (fun v wc => ∃ ao cap, v = .slice ao len0 cap ∧ len0 ≤ cap ∧ cap ≤ maxLen ∧ Hid (Arg wc ao len0 cap b0) ∧ Hid (Below w.heap.size w wc))
  case first =>
    cases a0 with
    | none =>

      go_wp2
      go_meet
      case rel => exact ⟨_, _, rfl, l0, m0, H0, Below.refl _ _⟩
    | some x =>
      obtain ⟨i0, hi, hz0, hz1, hz2⟩ := info_parts Try.info5
      go_wp2_with (first
        | (at_make; refine wpList_make_full _ rfl _ _ 22 rfl w.heap.size 5 i0 (.int .u8 0) 1 Try.underlying22 hi hz0 hz1 .i64 .i64 _ _ len0 rfl rfl rfl rfl (by rw [hz2]; omega) (by omega) (Nat.le_refl _) ?_; intro w1 hown1 hgrow1; have HG1 : Hid _ := made_block rfl hown1; have hbel1 : Hid (Below w.heap.size w w1) := (Below.refl _ _).grown hgrow1 (Nat.le_refl _) (by simp); clear hown1 hgrow1)
        | (have _t := HG1; refine wpList_copy_splice rfl (.tmp 39) (.tmp 40) 22 22 rfl 5 Try.underlying22 (by kernel_rfl) _ _ _ _ _ _ rfl rfl w.heap.size 0 _ 5 HG1.out (bv b0) (by rw [bv_length, H0.out.len_eq]; simp) (copy_pos (H0.out.rd.below hbel1.out) _) (by rw [bv_length, H0.out.len_eq]; simp) (bv_one _) w.heap.size w hbel1.out (Nat.le_refl _) ?_; intro w2 HG2 hB2; have HB2 : Hid _ := hB2; clear hB2))
      go_meet
      case rel =>
        have h := H0.out
        have hg := HG2.out
        rw [splice_all (by rw [bv_length, h.len_eq]; simp)] at hg
        exact ⟨_, _, rfl, Nat.le_refl _, by omega, ⟨RdB.of_block hg, h.len_eq, Nat.le_refl _, by omega, fun hh => by cases hh⟩, HB2⟩
  case rest =>
    obtain ⟨ao, cap, rfl, lc, mc, HA, HW⟩ := hcut
    have HA1 : Hid (Arg wc a1 len1 cap1 b1) := H1.out.below HW.out
    obtain ⟨i0, hi, hz0, hz1, hz2⟩ := info_parts Try.info5
    go_wp2_with (first
      | (at_make; refine wpList_make_own _ rfl _ _ 22 rfl wc.heap.size 5 i0 (.int .u8 0) 1 Try.underlying22 hi hz0 hz1 .i64 .i64 _ (len0 + len1) rfl rfl (by omega) (by rw [hz2]; omega) (by unfold maxLen; omega) (Nat.le_refl _) ?_; intro w3 hown3 hgrow3; have HO3 : Hid _ := hown3; have HB3 : Hid (Below wc.heap.size wc w3) := (Below.refl _ _).grown hgrow3 (Nat.le_refl _) (by simp); clear hown3 hgrow3)
      | (at_builtin; have _t := HO3; clear _t; refine wpList_append_fits_any _ rfl (.tmp 49) (.tmp 50) 22 rfl wc.heap.size 5 i0 1 Try.underlying22 hi hz1 _ _ _ _ rfl HO3.out _ _ _ (bv b0) rfl (by rw [bv_length, HA.out.len_eq]; simp) HA.out.nil (app_src (HA.out.rd.below HB3.out)) (bv_one _) (by omega) ?_; intro w4 hown4 hgrow4; simp only [Nat.zero_add, List.nil_append] at hown4; have HO4 : Hid _ := hown4; have HB4 : Hid (Below wc.heap.size wc w4) := HB3.out.grown hgrow4 HB3.out.size (by simp); clear hown4 hgrow4 HO3)
      | (at_builtin; have _t := HO4; clear _t; refine wpList_append_fits_any _ rfl (.tmp 52) (.tmp 53) 22 rfl wc.heap.size 5 i0 1 Try.underlying22 hi hz1 _ _ _ _ rfl HO4.out _ _ _ (bv b1) rfl (by rw [bv_length, HA1.out.len_eq]; simp) HA1.out.nil (app_src (HA1.out.rd.below HB4.out)) (bv_one _) (by omega) ?_; intro w5 hown5 hgrow5; have HO5 : Hid _ := hown5; have HB5 : Hid (Below wc.heap.size wc w5) := HB4.out.grown hgrow5 HB4.out.size (by simp); clear hown5 hgrow5))
    have HBT : Hid (Arg w5 (some ⟨wc.heap.size, 0, none⟩) (len0 + len1) (len0 + len1) (b0 ++ b1)) := Arg.of_owns (by rw [bv_append]; exact HO5.out) (Nat.le_refl _) (by unfold maxLen; omega)
    have HB0 : Hid (Arg w5 ao len0 cap b0) := HA.out.below HB5.out
    have HL1 : Hid (b1.length = len1) := HA1.out.len_eq
    have HBel : Hid (Below w.heap.size w w5) := HW.out.trans (HB5.out.mono HW.out.size)
    clear HO5 HA HA1 HW HB5 HB4 HB3 HO4 hneq H0 H1
    go_loop [9, 10] (fun u i => ∃ k : Nat, k ≤ len0 ∧ i = .int .i64 k ∧ u = .bool (noUp (b0.take k))) (fun _ i => len0 - (intOf i).toNat)
    case atStart => exact ⟨0, Nat.zero_le _, rfl, rfl⟩
    case round =>
      obtain ⟨k, hk, rfl, rfl⟩ := hrel
      by_cases hks : k < len0
      · obtain ⟨b, off, rfl, c, hc, hcell⟩ := HB0.out.cell hks
        have HC : Hid (b0[k]? = some c) := hc
        clear hc
        cases hu : up c
        · go_wp2_with (go_at_call 7; refine (upper_any _ _).mono ?_; rintro e w' ⟨rfl, rfl⟩)
          go_round
          case rel => exact ⟨k + 1, by omega, by go_num, by rw [noUp_next HC.out, hu]; simp⟩
          case measure => simp [intOf]; omega
        · go_wp2_with (go_at_call 7; refine (upper_any _ _).mono ?_; rintro e w' ⟨rfl, rfl⟩)
          go_round
          case rel => exact ⟨k + 1, by omega, by go_num, by rw [noUp_next HC.out, hu]; simp⟩
          case measure => simp [intOf]; omega
      · have hk' : b0.take k = b0 := List.take_of_length_le (by rw [HB0.out.len_eq]; omega)
        rw [hk']
        clear hk'
        have hcv0 := conv_any cap HB0.out.rd HB0.out.len_eq
        have hcv1 := conv_any (len0 + len1) HBT.out.rd HBT.out.len_eq
        have E1 : Hid (hs (b0 ++ b1) b0 = noUp b0) := self1 _ _
        have E2 : Hid ((((len1 : Int) == 0) = true ∧ hs b0 (b0 ++ b1) = noUp b0) ∨ (((len1 : Int) == 0) = false ∧ hs b0 (b0 ++ b1) = false)) := by
          show _ ∨ _
          rw [self2, HL1.out]
          by_cases h : len1 = 0
          · exact .inl ⟨by simp [h], by simp [h]⟩
          · exact .inr ⟨by simp; omega, by simp [h]⟩
        go_wp2_with fail
        refine (zz_hs_list (b0 ++ b1) b0 ⟨b0.toArray⟩ _ _ _ _ HBT.out.rd HBT.out.len_eq (Nat.le_refl _) HBT.out.max (toList_mk _) (by rw [HB0.out.len_eq]; unfold maxLen; omega) _ E1.out).mono ?_
        rintro e w' ⟨rfl, m1, rfl⟩
        clear hcv0 hcv1
        go_upto_region 25 with fail
        go_cut [14] (fun v wr => v = .bool true ∧ ∃ m, wr = w5.drewN m)
        case first =>
          rcases E2.out with ⟨hl, h2⟩ | ⟨hl, h2⟩
          · have H2 : Hid _ := h2
            clear h2
            go_wp2_with fail
            refine (zz_hs_list b0 (b0 ++ b1) ⟨(b0 ++ b1).toArray⟩ _ _ _ _ (HB0.out.rd.drewN _) HB0.out.len_eq lc mc (toList_mk _) (by rw [List.length_append, HB0.out.len_eq, HL1.out]; unfold maxLen; omega) _ H2.out).mono ?_
            rintro e w' ⟨rfl, m2, rfl⟩
            go_wp2
            go_meet
            case rel => exact ⟨rfl, _, rfl⟩
          · have H2 : Hid _ := h2
            clear h2
            go_wp2_with fail
            refine (zz_hs_list b0 (b0 ++ b1) ⟨(b0 ++ b1).toArray⟩ _ _ _ _ (HB0.out.rd.drewN _) HB0.out.len_eq lc mc (toList_mk _) (by rw [List.length_append, HB0.out.len_eq, HL1.out]; unfold maxLen; omega) _ H2.out).mono ?_
            rintro e w' ⟨rfl, m2, rfl⟩
            go_wp2
            go_meet
            case rel => exact ⟨rfl, _, rfl⟩
        case rest =>
          obtain ⟨rfl, m2, rfl⟩ := hcut
          clear E1 E2 HL1
          have HSl : Hid (s.data.toList.length = s.size) := by show _ = _; simp
          have hsl : s.size ≤ 524288 := by omega
          go_wp2_with (first
            | (at_make; refine wpList_make_full _ rfl _ _ 22 rfl w5.heap.size 5 i0 (.int .u8 0) 1 Try.underlying22 hi hz0 hz1 .i64 .i64 _ _ s.size rfl rfl rfl rfl (by rw [hz2]; omega) (by unfold maxLen; omega) (Nat.le_refl _) ?_; intro w6 hown6 hgrow6; have HG6 : Hid _ := made_block rfl hown6; have HB6 : Hid (Below w5.heap.size w5 w6) := (below_drewN (Below.refl _ _) _).grown hgrow6 (Nat.le_refl _) (by simp); clear hown6 hgrow6))
          have HO6 : Hid (w6.ownsRow w5.heap.size 5 1 (.slice (some ⟨w5.heap.size, 0, none⟩) s.size s.size) s.size (bv (qrow s.data.toList 0))) := by
            refine owns_of_block ?_ (Nat.le_refl _) ?_ (by unfold maxLen; omega)
            · rw [qrow_zero, HSl.out]; exact HG6.out
            · rw [bv_length, qrow_length _ _ (Nat.zero_le _), HSl.out]
          clear HG6
          go_loopw [16] (fun i wr => ∃ k : Nat, k ≤ s.size ∧ i = .int .i64 k ∧ Hid (wr.ownsRow w5.heap.size 5 1 (.slice (some ⟨w5.heap.size, 0, none⟩) s.size s.size) s.size (bv (qrow s.data.toList k))) ∧ Hid (Below w5.heap.size w5 wr)) (fun i _ => s.size - (intOf i).toNat)
          case atStart => exact ⟨0, Nat.zero_le _, rfl, HO6, HB6⟩
          case round =>
            obtain ⟨k, hk, rfl, HO, HB⟩ := hrel
            by_cases hks : k < s.size
            · have HD : Hid (s.data.toList[k]? = some s[k]) := str_get s k hks
              obtain ⟨old, hold⟩ : ∃ old, wr.cell? ⟨w5.heap.size, k, none⟩ = some (.int .u8 old) := by
                rw [HO.out.cellAt k (by omega), bv_get]
                have : k < (qrow s.data.toList k).length := by rw [qrow_length _ _ (by rw [HSl.out]; omega), HSl.out]; omega
                rw [List.getElem?_eq_getElem this]
                exact ⟨_, rfl⟩
              have hfz := HO.out.frozenAt k
              cases hu : up s[k]
              · go_wp2_with (go_at_call 7; refine (upper_any _ _).mono ?_; rintro e w' ⟨rfl, rfl⟩)
                go_roundw
                case rel => exact ⟨k + 1, by omega, by go_num, q_step HO.out HD.out (by simp [qq, hu]), HB.out.setCell (p := ⟨w5.heap.size, k, none⟩) (Nat.le_refl _) _⟩
                case measure => simp [intOf]; omega
              · go_wp2_with (go_at_call 7; refine (upper_any _ _).mono ?_; rintro e w' ⟨rfl, rfl⟩)
                go_roundw
                case rel => exact ⟨k + 1, by omega, by go_num, q_step HO.out HD.out (by simp [qq, hu]), HB.out.setCell (p := ⟨w5.heap.size, k, none⟩) (Nat.le_refl _) _⟩
                case measure => simp [intOf]; omega
            · obtain rfl : k = s.size := by omega
              have HQ : Hid (Arg wr (some ⟨w5.heap.size, 0, none⟩) s.size s.size (s.data.toList.map qq)) := by
                refine Arg.of_owns (base := w5.heap.size) ?_ (Nat.le_refl _) (by unfold maxLen; omega)
                have h := HO.out
                rw [← HSl.out, qrow_all, HSl.out] at h
                exact h
              have HB0' : Hid (Arg wr ao len0 cap b0) := HB0.out.below HB.out
              have HBT' : Hid (Arg wr (some ⟨wc.heap.size, 0, none⟩) (len0 + len1) (len0 + len1) (b0 ++ b1)) := HBT.out.below HB.out
              have HBel' : Hid (Below w.heap.size w wr) := HBel.out.trans (HB.out.mono HBel.out.size)
              have E3 : Hid (hs b0 (s.data.toList.map qq) = hs b0 s.data.toList) := self3 _ _
              have hcvq := fun m => conv_any s.size (HQ.out.rd.drewN m) HQ.out.len_eq
              clear HB0 HBT HBel HO HB
              go_wp2_with fail
              refine (zz_hs_list b0 s.data.toList s _ _ _ _ HB0'.out.rd HB0'.out.len_eq lc mc rfl (by rw [HSl.out]; exact h2) _ rfl).mono ?_
              rintro e w' ⟨rfl, m3, rfl⟩
              go_wp2_with fail
              refine (zz_hs_list b0 (s.data.toList.map qq) ⟨(s.data.toList.map qq).toArray⟩ _ _ _ _ (HB0'.out.rd.drewN _) HB0'.out.len_eq lc mc (toList_mk _) (by rw [List.length_map, HSl.out]; exact h2) _ E3.out).mono ?_
              rintro e w' ⟨rfl, m4, rfl⟩
              clear hcvq
              by_cases hge : s.size ≤ len0
              · have E4 : Hid (hs (b0 ++ b1) s.data.toList = hs b0 s.data.toList) := self4 _ _ _ (by rw [HB0'.out.len_eq, HSl.out]; exact hge)
                go_wp2_with fail
                refine (zz_hs_list (b0 ++ b1) s.data.toList s _ _ _ _ (HBT'.out.rd.drewN _) HBT'.out.len_eq (Nat.le_refl _) HBT'.out.max rfl (by rw [HSl.out]; exact h2) _ E4.out).mono ?_
                rintro e w' ⟨rfl, m5, rfl⟩
                go_wp2
                go_ret
                exact ⟨rfl, below_drewN HBel'.out _⟩
              · go_wp2
                go_ret
                exact ⟨rfl, below_drewN HBel'.out _⟩

end Go.Proofs.Qxb6628382a

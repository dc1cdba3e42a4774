import Derived.Test.Qxb6628493aWalk1
import Derived.Deep.DeepCutAuto
import Derived.Deep.Light
import Derived.Deep.RegionWith
namespace Go.Proofs.Qxb6628493a
open Go.ChangeShapes Go.WideShapes Go.ChangeAt
open Go.RowKit
open Go.Lib
set_option linter.unusedVariables false

def RdU (w : World) (a : Option Addr) (r : List Nat) : Prop :=
  r = [] ∨ ∃ b off, a = some ⟨b, off, none⟩ ∧ ∀ (l v : Nat), r[l]? = some v → w.cell? ⟨b, off + l, none⟩ = some (.int .u64 (v : Int))
def RowV (w : World) (v : Value) (r : List Nat) : Prop := ∃ a c, v = .slice a r.length c ∧ r.length ≤ c ∧ c ≤ maxLen ∧ RdU w a r
structure ArgR (w : World) (ao : Option Addr) (vs : List Value) (rows : List (List Nat)) : Prop where
  rd : vs = [] ∨ ∃ b off, ao = some ⟨b, off, none⟩ ∧ ∀ (k : Nat) (v : Value), vs[k]? = some v → w.cell? ⟨b, off + k, none⟩ = some v
  len : vs.length = rows.length
  row : ∀ (k : Nat) (v : Value) (r : List Nat), vs[k]? = some v → rows[k]? = some r → RowV w v r

theorem RdU.get {w : World} {a : Option Addr} {r : List Nat} (h : RdU w a r) {l : Nat} (hl : l < r.length) :
    ∃ b off, a = some ⟨b, off, none⟩ ∧ ∃ v : Nat, r[l]? = some v ∧ w.cell? ⟨b, off + l, none⟩ = some (.int .u64 (v : Int)) := by
  rcases h with h | ⟨b, off, rfl, hc⟩
  · subst h; simp at hl
  · exact ⟨b, off, rfl, r[l], List.getElem?_eq_getElem hl, hc l _ (List.getElem?_eq_getElem hl)⟩
theorem RdU.below {w w' : World} {a : Option Addr} {r : List Nat} (h : RdU w a r) (hb : Below w.heap.size w w') : RdU w' a r := by
  rcases h with h | ⟨b, off, rfl, hc⟩
  · exact .inl h
  · refine .inr ⟨b, off, rfl, fun k v hk => ?_⟩
    have h1 := hc k v hk
    rw [hb.cell (by exact block_lt_of_cell h1)]; exact h1
theorem RowV.below {w w' : World} {v : Value} {r : List Nat} (h : RowV w v r) (hb : Below w.heap.size w w') : RowV w' v r := by
  obtain ⟨a, c, rfl, h1, h2, h3⟩ := h
  exact ⟨a, c, rfl, h1, h2, h3.below hb⟩
theorem RowV.nil (w : World) : RowV w (.slice none 0 0) [] := ⟨none, 0, rfl, Nat.le_refl _, Nat.zero_le _, .inl rfl⟩
theorem ArgR.below {w w' : World} {ao : Option Addr} {vs : List Value} {rows : List (List Nat)} (h : ArgR w ao vs rows) (hb : Below w.heap.size w w') : ArgR w' ao vs rows := by
  refine ⟨?_, h.len, fun k v r h1 h2 => (h.row k v r h1 h2).below hb⟩
  rcases h.rd with h | ⟨b, off, rfl, hc⟩
  · exact .inl h
  · refine .inr ⟨b, off, rfl, fun k v hk => ?_⟩
    have h1 := hc k v hk
    rw [hb.cell (by exact block_lt_of_cell h1)]; exact h1
theorem ArgR.get {w : World} {ao : Option Addr} {vs : List Value} {rows : List (List Nat)} (h : ArgR w ao vs rows) {k : Nat} (hk : k < rows.length) :
    ∃ b off, ao = some ⟨b, off, none⟩ ∧ ∃ r a c, rows[k]? = some r ∧ vs[k]? = some (.slice a r.length c) ∧ w.cell? ⟨b, off + k, none⟩ = some (.slice a r.length c) ∧ r.length ≤ c ∧ c ≤ maxLen ∧ RdU w a r := by
  have hl := h.len
  rcases h.rd with h' | ⟨b, off, rfl, hc⟩
  · subst h'; simp at hl; omega
  · have e1 : rows[k]? = some rows[k] := List.getElem?_eq_getElem hk
    have e2 : vs[k]? = some (vs[k]'(by omega)) := List.getElem?_eq_getElem (by omega)
    obtain ⟨a, c, hv, h1, h2, h3⟩ := h.row k _ _ e2 e1
    refine ⟨b, off, rfl, rows[k], a, c, e1, by rw [← hv]; exact e2, ?_, h1, h2, h3⟩
    rw [hc k _ e2, hv]

def TBp (n : Nat) (r : Bool) : Prop := r = false → n ≤ 131072
def BoolEnd (e : Ending) (p : Bool → Prop) : Prop := ∃ r : Bool, e = .returned (.bool r) ∧ p r

theorem bytes5_any (ao : Option Addr) (n cap : Nat) (vs : List Value) (rows : List (List Nat)) (x c : Int) (w : World) (h : ArgR w ao vs rows) (hn : rows.length = n) (hcap : n ≤ cap) (hm : cap ≤ maxLen) :
    Calls Try.prog 5 #[.slice ao n cap, .int .u64 x, .int .i64 c] w fun e w' => w = w' ∧ BoolEnd e (fun _ => True) := by
  unfold maxLen at hm
  have H : Hid (ArgR w ao vs rows) := h
  have HN : Hid (rows.length = n) := hn
  clear h hn
  by_cases hl : n ≤ 1048576
  · go_enter Try.func5, Try.ntmps5
    go_wp2
    go_loop [7, 8] (fun z i => ∃ (k : Nat) (y : Int), k ≤ n ∧ i = .int .i64 k ∧ z = .int .i64 y ∧ 0 ≤ y ∧ y ≤ 1048576) (fun _ i => n - (intOf i).toNat)
    case atStart => exact ⟨0, n, Nat.zero_le _, rfl, rfl, by omega, by omega⟩
    case round =>
      obtain ⟨k, y, hk, rfl, rfl, hy1, hy2⟩ := hrel
      by_cases hkl : k < n
      · obtain ⟨b, off, rfl, r, a, c', hr, hv, hc, hrc, hcm, hrd⟩ := H.out.get (k := k) (by rw [HN.out]; exact hkl)
        unfold maxLen at hcm
        clear hr hv hrd
        go_wp2
        · go_ret; first | exact ⟨rfl, _, rfl, trivial⟩ | exact ⟨_, rfl, trivial⟩
        · go_ret; first | exact ⟨rfl, _, rfl, trivial⟩ | exact ⟨_, rfl, trivial⟩
        · go_round
          case rel => go_light; exact ⟨k + 1, _, by omega, by go_num, rfl, by omega, by omega⟩
          case measure => go_light; simp [intOf]; omega
      · go_wp2
        go_ret
        first | exact ⟨rfl, _, rfl, trivial⟩ | exact ⟨_, rfl, trivial⟩
  · go_enter Try.func5, Try.ntmps5
    go_wp2
    go_ret
    first | exact ⟨rfl, _, rfl, trivial⟩ | exact ⟨_, rfl, trivial⟩

theorem bytes12_any (ao : Option Addr) (n cap : Nat) (vs : List Value) (rows : List (List Nat)) (x y0 c : Int) (w : World) (h : ArgR w ao vs rows) (hn : rows.length = n) (hcap : n ≤ cap) (hm : cap ≤ maxLen) :
    Calls Try.prog 12 #[.slice ao n cap, .int .u64 x, .int .u64 y0, .int .i64 c] w fun e w' => w = w' ∧ BoolEnd e (fun _ => True) := by
  unfold maxLen at hm
  have H : Hid (ArgR w ao vs rows) := h
  have HN : Hid (rows.length = n) := hn
  clear h hn
  by_cases hl : n ≤ 1048576
  · go_enter Try.func12, Try.ntmps12
    go_wp2
    go_loop [9, 10] (fun z i => ∃ (k : Nat) (y : Int), k ≤ n ∧ i = .int .i64 k ∧ z = .int .i64 y ∧ 0 ≤ y ∧ y ≤ 1048576) (fun _ i => n - (intOf i).toNat)
    case atStart => exact ⟨0, n, Nat.zero_le _, rfl, rfl, by omega, by omega⟩
    case round =>
      obtain ⟨k, y, hk, rfl, rfl, hy1, hy2⟩ := hrel
      by_cases hkl : k < n
      · obtain ⟨b, off, rfl, r, a, c', hr, hv, hc, hrc, hcm, hrd⟩ := H.out.get (k := k) (by rw [HN.out]; exact hkl)
        unfold maxLen at hcm
        clear hr hv hrd
        go_wp2
        · go_ret; first | exact ⟨rfl, _, rfl, trivial⟩ | exact ⟨_, rfl, trivial⟩
        · go_ret; first | exact ⟨rfl, _, rfl, trivial⟩ | exact ⟨_, rfl, trivial⟩
        · go_round
          case rel => go_light; exact ⟨k + 1, _, by omega, by go_num, rfl, by omega, by omega⟩
          case measure => go_light; simp [intOf]; omega
      · go_wp2
        go_ret
        first | exact ⟨rfl, _, rfl, trivial⟩ | exact ⟨_, rfl, trivial⟩
  · go_enter Try.func12, Try.ntmps12
    go_wp2
    go_ret
    first | exact ⟨rfl, _, rfl, trivial⟩ | exact ⟨_, rfl, trivial⟩

theorem toobig_any (ao : Option Addr) (n cap : Nat) (vs : List Value) (rows : List (List Nat)) (w : World) (h : ArgR w ao vs rows) (hn : rows.length = n) (hcap : n ≤ cap) (hm : cap ≤ maxLen) :
    Calls Try.prog 6 #[.slice ao n cap] w fun e w' => w = w' ∧ BoolEnd e (TBp n) := by
  unfold maxLen at hm
  have H : Hid (ArgR w ao vs rows) := h
  have HN : Hid (rows.length = n) := hn
  clear h hn
  by_cases hl : n ≤ 131072
  · have HL : Hid (n ≤ 131072) := hl
    go_enter Try.func6, Try.ntmps6
    go_wp2
    go_loop [3, 4] (fun z i => ∃ (k : Nat) (y : Int), k ≤ n ∧ i = .int .i64 k ∧ z = .int .i64 y ∧ 0 ≤ y ∧ y ≤ 1048576) (fun _ i => n - (intOf i).toNat)
    case atStart => exact ⟨0, _, Nat.zero_le _, rfl, rfl, by omega, by omega⟩
    case round =>
      obtain ⟨k, y, hk, rfl, rfl, hy1, hy2⟩ := hrel
      by_cases hkl : k < n
      · obtain ⟨b, off, rfl, r, a, c', hr, hv, hc, hrc, hcm, hrd⟩ := H.out.get (k := k) (by rw [HN.out]; exact hkl)
        unfold maxLen at hcm
        clear hr hv hrd
        go_wp2
        · go_ret; first | exact ⟨rfl, _, rfl, fun _ => HL.out⟩ | exact ⟨_, rfl, fun _ => HL.out⟩
        · go_ret; first | exact ⟨rfl, _, rfl, fun _ => HL.out⟩ | exact ⟨_, rfl, fun _ => HL.out⟩
        · go_round
          case rel => go_light; exact ⟨k + 1, _, by omega, by go_num, rfl, by omega, by omega⟩
          case measure => go_light; simp [intOf]; omega
      · go_wp2
        go_ret
        first | exact ⟨rfl, _, rfl, fun _ => HL.out⟩ | exact ⟨_, rfl, fun _ => HL.out⟩
  · go_enter Try.func6, Try.ntmps6
    go_wp2
    go_ret
    first | exact ⟨rfl, _, rfl, fun h => by cases h⟩ | exact ⟨_, rfl, fun h => by cases h⟩

def Good (rows : List (List Nat)) (n : Nat) : Prop := ∀ r ∈ rows, r.length ≤ n ∧ ∀ v ∈ r, v < Pm
def IDp (rows : List (List Nat)) (n : Nat) (r : Bool) : Prop := r = true → Good rows n

theorem good_of {rows : List (List Nat)} {n : Nat} (h : ∀ (k : Nat) (r : List Nat), k < rows.length → rows[k]? = some r → r.length ≤ n ∧ ∀ v ∈ r, v < Pm) : Good rows n := by
  intro r hr
  obtain ⟨k, hk, rfl⟩ := List.mem_iff_getElem.1 hr
  exact h k _ hk (List.getElem?_eq_getElem hk)

theorem all_lt {r : List Nat} (h : ∀ (l v : Nat), l < r.length → r[l]? = some v → v < Pm) : ∀ v ∈ r, v < Pm := by
  intro v hv
  obtain ⟨k, hk, rfl⟩ := List.mem_iff_getElem.1 hv
  exact h k _ hk (List.getElem?_eq_getElem hk)

set_option maxRecDepth 100000 in
theorem domain_any (ao : Option Addr) (n cap : Nat) (vs : List Value) (rows : List (List Nat)) (w : World) (h : ArgR w ao vs rows) (hn : rows.length = n) (hcap : n ≤ cap) (hm : cap ≤ maxLen) :
    Calls Try.prog 7 #[.slice ao n cap] w fun e w' => w = w' ∧ BoolEnd e (IDp rows n) := by
  unfold maxLen at hm
  have H : Hid (ArgR w ao vs rows) := h
  have HN : Hid (rows.length = n) := hn
  clear h hn
  go_enter Try.func7, Try.ntmps7
  go_wp2
  go_loop [4] (fun i => ∃ (k : Nat), k ≤ n ∧ i = .int .i64 k ∧ Hid (∀ (q : Nat) (r : List Nat), q < k → rows[q]? = some r → r.length ≤ n ∧ ∀ v ∈ r, v < Pm)) (fun i => n - (intOf i).toNat)
  case atStart => exact ⟨0, Nat.zero_le _, rfl, fun q r hq => absurd hq (by omega)⟩
  case round =>
    obtain ⟨k, hk, rfl, HG⟩ := hrel
    by_cases hkl : k < n
    · obtain ⟨b, off, rfl, r, a, c', hr, hv, hc, hrc, hcm, hrd⟩ := H.out.get (k := k) (by rw [HN.out]; exact hkl)
      have HR : Hid (rows[k]? = some r) := hr
      have HD : Hid (RdU w a r) := hrd
      unfold maxLen at hcm
      clear hr hv hrd
      by_cases hrn : r.length ≤ n
      · have HRn : Hid (r.length ≤ n) := hrn
        go_wp2
        go_loop [5] (fun i => ∃ (l : Nat), l ≤ r.length ∧ i = .int .i64 l ∧ Hid (∀ (q v : Nat), q < l → r[q]? = some v → v < Pm)) (fun i => r.length - (intOf i).toNat)
        case atStart => exact ⟨0, Nat.zero_le _, rfl, fun q v hq => absurd hq (by omega)⟩
        case round =>
          obtain ⟨l, hl, rfl, HL⟩ := hrel
          by_cases hll : l < r.length
          · obtain ⟨b2, off2, rfl, v, hv, hcv⟩ := HD.out.get hll
            obtain ⟨z, hz⟩ : ∃ z : Int, (v : Int) = z := ⟨_, rfl⟩
            rw [hz] at hcv
            have HZ : Hid ((v : Int) = z) := hz
            have HV : Hid (r[l]? = some v) := hv
            clear hz hv
            by_cases hzp : z < 2305843009213693951
            · have HP : Hid (v < Pm) := by
                have := HZ.out
                show v < 2305843009213693951
                omega
              go_wp2
              go_round
              case rel =>
                go_light
                refine ⟨l + 1, by omega, by go_num, ?_⟩
                intro q' v' hq' hv'
                by_cases e : q' < l
                · exact HL.out q' v' e hv'
                · obtain rfl : q' = l := by omega
                  rw [HV.out] at hv'; cases hv'; exact HP.out
              case measure => go_light; simp [intOf]; omega
            · go_wp2
              go_ret
              first | exact ⟨rfl, _, rfl, fun h => by cases h⟩ | exact ⟨_, rfl, fun h => by cases h⟩
          · go_wp2
            go_round
            case rel =>
              go_light
              refine ⟨k + 1, by omega, by go_num, ?_⟩
              intro q' r' hq' hr'
              by_cases e : q' < k
              · exact HG.out q' r' e hr'
              · obtain rfl : q' = k := by omega
                rw [HR.out] at hr'; cases hr'
                exact ⟨HRn.out, all_lt fun l' v' hl' hv' => HL.out l' v' (by omega) hv'⟩
            case measure => go_light; simp [intOf]; omega
      · go_wp2
        go_ret
        first | exact ⟨rfl, _, rfl, fun h => by cases h⟩ | exact ⟨_, rfl, fun h => by cases h⟩
    · go_wp2
      go_ret
      have hg : IDp rows n true := fun _ => good_of fun q r hq hr => HG.out q r (by rw [HN.out] at hq; omega) hr
      first | exact ⟨rfl, _, rfl, hg⟩ | exact ⟨_, rfl, hg⟩

end Go.Proofs.Qxb6628493a

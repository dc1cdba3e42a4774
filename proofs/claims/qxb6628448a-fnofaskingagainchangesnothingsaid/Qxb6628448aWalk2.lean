import Derived.Test.Qxb6628448aWalk1
import Derived.Deep.DeepCutAuto
import Derived.Deep.Light
import Derived.SliceStrings
namespace Go.Proofs.Qxb6628448a
open Go.ChangeShapes Go.WideShapes Go.ChangeAt
open Go.RowKit
open Go.Maps
open Go.WideMaps
open Go.MuLone
set_option linter.unusedVariables false

abbrev nm (s : ByteArray) : Nm := s.data.toList

theorem Kept.alloc {sb : Nat} {a w : World} (h : Kept sb a w) (hs : sb ≤ w.heap.size) (o : Obj) : Kept sb a (w.alloc o) :=
  ⟨h.below.alloc hs o, fun i cs t fr hi hh => by
    have := h.rows i cs t fr hi hh
    rw [Below.heap_alloc _ _ _ (Array.getElem?_eq_some_iff.1 this).1]; exact this⟩

theorem of_any (sb : Nat) (seen : List Nm) (s : ByteArray) (w : World) (h : Ali w sb seen) (hs : s.size ≤ maxLen) (hl : seen.length < 4294967295) :
    Calls Try.prog 6 #[.pointer (some ⟨sb, 0, none⟩), .string s] w fun e w' => e = .returned (.int .u64 (ali seen (nm s) : Nat)) ∧ Ali w' sb (step seen (nm s)) ∧ Kept sb w w' := by
  obtain ⟨mv, hb, ⟨rfl, rfl⟩ | ⟨bm, D, rfl, hlt, hown, ht⟩⟩ := h.box
  · refine (of_first sb s w hb hs).mono ?_
    rintro e w' ⟨rfl, w1, hown1, hg, rfl⟩
    have hsz : sb < w.heap.size := (Array.getElem?_eq_some_iff.1 hb).1
    have hb1 : ((w.setCell ⟨sb, 0, none⟩ (.int .i32 1)).setCell ⟨sb, 2, none⟩ (.map (some w.heap.size))).heap[sb]? = some (.cells #[.int .i32 1, .int .u32 0, .map (some w.heap.size)] 34 (0, 0)) :=
      heap_setCell_same _ sb 2 _ _ _ (heap_setCell_same w sb 0 _ _ _ hb)
    have hb2 : w1.heap[sb]? = some (.cells #[.int .i32 1, .int .u32 0, .map (some w.heap.size)] 34 (0, 0)) := by
      rw [hg.block sb (by simp; omega) (by intro e; cases e; omega)]
      rw [Below.heap_alloc _ _ _ (by simp; omega)]; exact hb1
    have hd := tells_nil.put tidy_empty (x := nm s) (by simp)
    refine ⟨rfl, ⟨_, heap_setCell_same w1 sb 0 _ _ _ hb2, .inr ⟨w.heap.size, _, rfl, hsz, hown1.setCell (a := ⟨sb, 0, none⟩) (show w.heap.size ≠ sb by omega) _, hd⟩⟩, ?_⟩
    have hk : Kept sb w (((w.setCell ⟨sb, 0, none⟩ (.int .i32 1)).setCell ⟨sb, 2, none⟩ (.map (some w.heap.size))).alloc (.map #[] 0)) :=
      (((Kept.refl sb w).setCell 0 _).setCell 2 _).alloc (by simp; omega) _
    refine (hk.grown (bm := w.heap.size) (es := #[]) (cl := 0) hg hsz ?_).setCell 0 _
    have e : ((w.setCell ⟨sb, 0, none⟩ (.int .i32 1)).setCell ⟨sb, 2, none⟩ (.map (some w.heap.size))).heap.size = w.heap.size := by simp [World.setCell]
    have := (MapKept.heap_alloc ((w.setCell ⟨sb, 0, none⟩ (.int .i32 1)).setCell ⟨sb, 2, none⟩ (.map (some w.heap.size))) (.map #[] 0)).1
    rw [e] at this
    exact this
  · by_cases hin : nm s ∈ seen
    · refine (of_there sb bm _ D seen s w hb hlt hown ht hs hin).mono ?_
      rintro e w' ⟨rfl, rfl⟩
      refine ⟨rfl, ?_, ((Kept.refl sb w).setCell 0 _).setCell 0 _⟩
      rw [step_mem hin]
      exact ⟨_, heap_setCell_same _ sb 0 _ _ _ (heap_setCell_same w sb 0 _ _ _ hb), .inr ⟨bm, D, rfl, hlt, (hown.setCell (a := ⟨sb, 0, none⟩) (show bm ≠ sb by omega) _).setCell (a := ⟨sb, 0, none⟩) (show bm ≠ sb by omega) _, ht⟩⟩
    · refine (of_new sb bm _ D seen s w hb hlt hown ht hs hin (by omega) hl).mono ?_
      rintro e w' ⟨rfl, w1, hown1, hg, rfl⟩
      have hb1 : (w.setCell ⟨sb, 0, none⟩ (.int .i32 1)).heap[sb]? = some (.cells #[.int .i32 1, .int .u32 0, .map (some bm)] 34 (0, 0)) := heap_setCell_same w sb 0 _ _ _ hb
      have hb2 : w1.heap[sb]? = some (.cells #[.int .i32 1, .int .u32 0, .map (some bm)] 34 (0, 0)) := by
        rw [hg.block sb (Array.getElem?_eq_some_iff.1 hb1).1 (by intro e; cases e; omega)]; exact hb1
      have hd := ht.put (hown.tidy law9) hin
      have hln : (step seen (nm s)).length = seen.length + 1 := by rw [step_new hin]; simp
      refine ⟨rfl, ⟨_, heap_setCell_same w1 sb 0 _ _ _ hb2, .inr ⟨bm, _, rfl, hlt, ?_, hd⟩⟩, ?_⟩
      · rw [hln]; exact hown1.setCell (a := ⟨sb, 0, none⟩) (show bm ≠ sb by omega) _
      · obtain ⟨es, cl, hm, _⟩ := hown.setCell (a := ⟨sb, 0, none⟩) (show bm ≠ sb by omega) (.int .i32 1)
        exact (((Kept.refl sb w).setCell 0 _).grown hg hlt hm).setCell 0 _

theorem Ali.grown {w w' : World} {sb : Nat} {seen : List Nm} {row : Option Nat} (h : Ali w sb seen) (hg : w.grownBy w' row) (hr : ∀ k, row = some k → k ≠ sb ∧ ∃ cs t fr, w.heap[k]? = some (.cells cs t fr)) : Ali w' sb seen := by
  obtain ⟨mv, hb, hm⟩ := h.box
  refine ⟨mv, ?_, ?_⟩
  · rw [hg.block sb (Array.getElem?_eq_some_iff.1 hb).1 (by rintro rfl; exact (hr sb rfl).1 rfl)]; exact hb
  · rcases hm with hm | ⟨bm, D, rfl, hlt, hown, ht⟩
    · exact .inl hm
    · refine .inr ⟨bm, D, rfl, hlt, hown.kept hg ?_, ht⟩
      rintro rfl
      obtain ⟨_, cs, t, fr, hc⟩ := hr bm rfl
      obtain ⟨es, cl, hm, _⟩ := hown
      rw [hm] at hc; cases hc

theorem Ali.drewN {w : World} {sb : Nat} {seen : List Nm} (h : Ali w sb seen) (n : Nat) : Ali (w.drewN n) sb seen := ⟨h.box⟩

structure ArgS (w : World) (ao : Option Addr) (len : Nat) (ss : List ByteArray) : Prop where
  rd : ss = [] ∨ ∃ b off, ao = some ⟨b, off, none⟩ ∧ ∀ (k : Nat) (s : ByteArray), ss[k]? = some s → w.cell? ⟨b, off + k, none⟩ = some (.string s)
  len_eq : ss.length = len
  small : ∀ s ∈ ss, s.size ≤ maxLen

theorem argS_of {H : Type} {enc : TypeId × Value → H} {W : World} {t e : TypeId} {fuel : Nat} {a : Option Addr} {len cap : Nat} {x : DataW H × List MemPlace} (ht : Try.prog.underlying t = some (.slice e)) (he : Try.prog.underlying e = some .string) (hc : Try.prog.cellsOf e = 1)
    (h : DataW.trod enc Try.prog W 0 (fun _ => true) true fuel t (Value.slice a len cap).cells.toList = some x) : ∃ ss, ArgS W a len ss ∧ len ≤ cap ∧ cap ≤ maxLen := by
  rcases open_strings ht he hc h with ⟨hcs, _⟩ | ⟨ad, l, c, ss, hcs, _, hl, hm, hz, _, hcell, hsm⟩
  · simp [Value.cells] at hcs
    obtain ⟨rfl, rfl, rfl⟩ := hcs
    exact ⟨[], ⟨.inl rfl, rfl, fun s hs => by simp at hs⟩, Nat.le_refl _, Nat.zero_le _⟩
  · simp [Value.cells] at hcs
    obtain ⟨rfl, rfl, rfl⟩ := hcs
    simp at hz
    refine ⟨ss.take len, ⟨?_, by simp; omega, fun s hs => hsm s (List.mem_of_mem_take hs)⟩, hl, hm⟩
    by_cases h0 : len = 0
    · subst h0; exact .inl (by simp)
    · have hp : 0 < ss.length := by omega
      obtain ⟨b, off, spot⟩ := ad
      have hspot : spot = none := by simpa [Addr.add] using World.cell?_spot (hcell 0 hp)
      subst hspot
      refine .inr ⟨b, off, rfl, fun k s hk => ?_⟩
      have hk' : k < len := by
        have := (List.getElem?_eq_some_iff.1 hk).1
        simp at this; omega
      have := hcell k (by omega)
      rw [Addr.add_lit] at this
      rw [this]
      simp only [List.getElem?_take, if_pos hk'] at hk
      simp [List.getD, hk]

theorem ArgS.cell {w : World} {ao : Option Addr} {len : Nat} {ss : List ByteArray} (h : ArgS w ao len ss) {k : Nat} (hk : k < len) :
    ∃ b off, ao = some ⟨b, off, none⟩ ∧ ∃ s, ss[k]? = some s ∧ s.size ≤ maxLen ∧ w.cell? ⟨b, off + k, none⟩ = some (.string s) := by
  have hl := h.len_eq
  rcases h.rd with h' | ⟨b, off, rfl, hc⟩
  · subst h'; simp at hl; omega
  · have e : ss[k]? = some (ss[k]'(by omega)) := List.getElem?_eq_getElem (by omega)
    exact ⟨b, off, rfl, _, e, h.small _ (List.mem_of_getElem? e), hc k _ e⟩

theorem ArgS.below {w w' : World} {ao : Option Addr} {n : Nat} {ss : List ByteArray} (h : ArgS w ao n ss) (hb : Below w.heap.size w w') : ArgS w' ao n ss := by
  refine ⟨?_, h.len_eq, h.small⟩
  rcases h.rd with h' | ⟨b, off, rfl, hc⟩
  · exact .inl h'
  · refine .inr ⟨b, off, rfl, fun k s hk => ?_⟩
    have h1 := hc k s hk
    rw [hb.cell (by exact block_lt_of_cell h1)]
    exact h1

def BoolEnd (e : Ending) : Prop := ∃ r : Bool, e = .returned (.bool r)

theorem bytes1_any (ao : Option Addr) (len cap : Nat) (ss : List ByteArray) (w : World) (h : ArgS w ao len ss) (hcap : len ≤ cap) (hm : cap ≤ maxLen) :
    Calls Try.prog 5 #[.slice ao len cap] w fun e w' => w = w' ∧ BoolEnd e := by
  unfold maxLen at hm
  have H : Hid (ArgS w ao len ss) := h
  clear h
  by_cases hl : len ≤ 1048576
  · go_enter Try.func5, Try.ntmps5
    go_wp2
    go_loop [3, 4] (fun z i => ∃ (k : Nat) (y : Int), k ≤ len ∧ i = .int .i64 k ∧ z = .int .i64 y ∧ 0 ≤ y ∧ y ≤ 1048576) (fun _ i => len - (intOf i).toNat)
    case atStart => exact ⟨0, len, Nat.zero_le _, rfl, rfl, by omega, by omega⟩
    case round =>
      obtain ⟨k, y, hk, rfl, rfl, hy1, hy2⟩ := hrel
      by_cases hkl : k < len
      · obtain ⟨b, off, rfl, s, hs, hss, hc⟩ := H.out.cell hkl
        have HS : Hid (ss[k]? = some s) := hs
        clear hs
        go_wp2
        · go_ret; first | exact ⟨rfl, _, rfl⟩ | exact ⟨_, rfl⟩
        · go_ret; first | exact ⟨rfl, _, rfl⟩ | exact ⟨_, rfl⟩
        · go_round
          case rel => go_light; exact ⟨k + 1, _, by omega, by go_num, rfl, by omega, by omega⟩
          case measure => go_light; simp [intOf]; omega
      · go_wp2
        go_ret
        first | exact ⟨rfl, _, rfl⟩ | exact ⟨_, rfl⟩
  · go_enter Try.func5, Try.ntmps5
    go_wp2
    go_ret
    first | exact ⟨rfl, _, rfl⟩ | exact ⟨_, rfl⟩

end Go.Proofs.Qxb6628448a

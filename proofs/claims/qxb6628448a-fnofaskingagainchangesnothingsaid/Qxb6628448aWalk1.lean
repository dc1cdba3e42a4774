import Derived.Test.Qxb6628448aLocks
import Derived.Test.Qxb6628448aPlain
import Derived.Maps.OwnSet
import Derived.WalkKit
import Derived.ProofKit
import Derived.WalkSpells
import Derived.WalkSmall
import Derived.Deep.QuietTactic
import Derived.BigQuiet
namespace Go.Proofs.Qxb6628448a
open Go.ChangeShapes Go.WideShapes Go.ChangeAt
open Go.RowKit
open Go.Maps
open Go.WideMaps
open Go.MuLone
set_option linter.unusedVariables false

theorem law9 : Keyed Try.prog 9 := string_keyed Try.underlying9
theorem zero35 (w : World) : (zeroValue 35).run Try.prog w = .ok (.int .u64 0) w := by kernel_rfl

structure Tells (D : DataW Unit) (seen : List Nm) : Prop where
  has : ∀ x : Nm, Maps.has D (.string x) = decide (x ∈ seen)
  get : ∀ x : Nm, x ∈ seen → D.atKey (.string x) (.lit (.int .u64 0)) = .lit (.int .u64 (ali seen x : Nat))
  size : Maps.size D = seen.length

theorem tells_nil : Tells (.map []) [] := ⟨fun x => by simp [Maps.has_eq], fun x h => by simp at h, rfl⟩

theorem Tells.put {D : DataW Unit} {seen : List Nm} (h : Tells D seen) (ht : Tidy D) {x : Nm} (hx : ¬ x ∈ seen) :
    Tells (D.put (.string x) (.lit (.int .u64 (ali seen x : Nat)))) (step seen x) := by
  refine ⟨fun y => ?_, fun y hy => ?_, ?_⟩
  · by_cases e : y = x
    · subst e
      rw [has_put_same (k := .string y) ht.isMap trivial]; simp [mem_step]
    · rw [has_put_other (by simpa using e), h.has]; simp [mem_step, e]
  · by_cases e : y = x
    · subst e
      rw [atKey_put_same (k := .string y) ht.isMap trivial, ali_self]
    · rw [atKey_put_other (by simpa using e)]
      rw [mem_step] at hy
      have hy' : y ∈ seen := by rcases hy with h | h; exact h; exact absurd h e
      rw [h.get y hy', ali_step hy']
  · rw [size_put ht, h.has]; simp [hx, step_new hx, h.size]

structure Ali (w : World) (sb : Nat) (seen : List Nm) : Prop where
  box : ∃ mv, w.heap[sb]? = some (.cells #[.int .i32 0, .int .u32 0, mv] 34 (0, 0)) ∧
    ((seen = [] ∧ mv = .map none) ∨ ∃ bm D, mv = .map (some bm) ∧ sb < bm ∧ w.ownsMap Try.prog 9 (plainElem Try.prog 35) bm seen.length D ∧ Tells D seen)

structure Kept (sb : Nat) (w w' : World) : Prop where
  below : Below sb w w'
  rows : ∀ (k : Nat) cs t fr, k ≠ sb → w.heap[k]? = some (.cells cs t fr) → w'.heap[k]? = some (.cells cs t fr)

theorem Kept.refl (sb : Nat) (w : World) : Kept sb w w := ⟨Below.refl _ _, fun _ _ _ _ _ h => h⟩
theorem Kept.trans {sb : Nat} {a b c : World} (h : Kept sb a b) (k : Kept sb b c) : Kept sb a c :=
  ⟨h.below.trans k.below, fun i cs t fr hi hh => k.rows i cs t fr hi (h.rows i cs t fr hi hh)⟩
theorem Kept.setCell {sb : Nat} {a w : World} (h : Kept sb a w) (j : Nat) (u : Value) : Kept sb a (w.setCell ⟨sb, j, none⟩ u) :=
  ⟨h.below.setCell (p := ⟨sb, j, none⟩) (Nat.le_refl _) u, fun i cs t fr hi hh => by rw [heap_setCell_other w ⟨sb, j, none⟩ i u hi]; exact h.rows i cs t fr hi hh⟩
theorem Kept.grown {sb bm : Nat} {a w w' : World} {es : Array MapEntry} {cl : Nat} (h : Kept sb a w) (hg : w.grownBy w' (some bm)) (hb : sb < bm) (hm : w.heap[bm]? = some (.map es cl)) : Kept sb a w' := by
  have hlt : bm < w.heap.size := (Array.getElem?_eq_some_iff.1 hm).1
  refine ⟨h.below.grown hg (by omega) (by rintro k hk; cases hk; omega), fun i cs t fr hi hh => ?_⟩
  have := h.rows i cs t fr hi hh
  have hil : i < w.heap.size := (Array.getElem?_eq_some_iff.1 this).1
  rw [hg.block i hil (by rintro hk; cases hk; rw [hm] at this; cases this)]
  exact this

theorem wf_u64 {n : Nat} (h : n < 4294967296) : (Lit.int .u64 (n : Int)).wf = true := WalkArith.wf_u64 (by omega)

set_option maxHeartbeats 1600000 in
theorem of_there (sb bm n : Nat) (D : DataW Unit) (seen : List Nm) (s : ByteArray) (w : World) (hb : w.heap[sb]? = some (.cells #[.int .i32 0, .int .u32 0, .map (some bm)] 34 (0, 0))) (hbs : sb < bm)
    (hown : w.ownsMap Try.prog 9 (plainElem Try.prog 35) bm n D) (ht : Tells D seen) (hs : s.size ≤ maxLen) (hin : s.data.toList ∈ seen) :
    Calls Try.prog 6 #[.pointer (some ⟨sb, 0, none⟩), .string s] w fun e w' => e = .returned (.int .u64 (ali seen s.data.toList : Nat)) ∧
      w' = (w.setCell ⟨sb, 0, none⟩ (.int .i32 1)).setCell ⟨sb, 0, none⟩ (.int .i32 0) := by
  have hkey := keyOf_string_mk Try.underlying9 hs
  have c0 : w.cell? ⟨sb, 0, none⟩ = some (.int .i32 0) := by rw [cell_of_row w sb 0 _ _ _ hb]; rfl
  have c2 : w.cell? ⟨sb, 2, none⟩ = some (.map (some bm)) := by rw [cell_of_row w sb 2 _ _ _ hb]; rfl
  have f0 : w.frozen? ⟨sb, 0, none⟩ = false := frozen_of_row w sb 0 _ _ hb
  have HO : Hid _ := hown.setCell (a := ⟨sb, 0, none⟩) (show bm ≠ sb by omega) (.int .i32 1)
  have hh : Maps.has D (.string s.data.toList) = true := by rw [ht.has]; simpa using hin
  have HG : Hid _ := ht.get _ hin
  clear hown ht hb
  go_enter_defers Try.func6, Try.ntmps6
  go_wp2_with (first
    | (go_at_call 8; refine (lock_free muLib ⟨sb, 0, none⟩ _ c0 f0).mono ?_; rintro e w' ⟨rfl, rfl⟩)
    | (at_lookup; refine wpList_lookup_own_ok_int _ rfl _ _ 32 rfl 9 35 .u64 law9 Try.underlying32 Try.underlying35 (zero35 _) bm n D rfl HO.out _ _ rfl hkey ?_; intro c hat hwc))
  have hc : c = (ali seen s.data.toList : Nat) := by
    have h := HG.out
    rw [hat] at h
    simpa using h
  refine leaves_cons (f := 9) (args := #[.pointer (some ⟨sb, 0, none⟩)]) (by simp) (by simp [go_sem]) ?_
  refine (unlock_deferred muLib ⟨sb, 0, none⟩ .returning _ ?_ ?_).mono ?_
  · exact World.cell?_setCell_same w ⟨sb, 0, none⟩ (.int .i32 1) c0
  · simp [f0]
  rintro e u' w'' ⟨rfl, rfl, rfl⟩
  exact ⟨_, results_tmp rfl _ _ _, by rw [← hc]; rfl, rfl⟩

set_option maxHeartbeats 1600000 in
theorem of_new (sb bm n : Nat) (D : DataW Unit) (seen : List Nm) (s : ByteArray) (w : World) (hb : w.heap[sb]? = some (.cells #[.int .i32 0, .int .u32 0, .map (some bm)] 34 (0, 0))) (hbs : sb < bm)
    (hown : w.ownsMap Try.prog 9 (plainElem Try.prog 35) bm n D) (ht : Tells D seen) (hs : s.size ≤ maxLen) (hin : ¬ s.data.toList ∈ seen) (hn : n < 4294967296) (hl : seen.length < 4294967295) :
    Calls Try.prog 6 #[.pointer (some ⟨sb, 0, none⟩), .string s] w fun e w' => e = .returned (.int .u64 (ali seen s.data.toList : Nat)) ∧
      ∃ w1, w1.ownsMap Try.prog 9 (plainElem Try.prog 35) bm (n + 1) (D.put (.string s.data.toList) (.lit (.int .u64 (ali seen s.data.toList : Nat)))) ∧ (w.setCell ⟨sb, 0, none⟩ (.int .i32 1)).grownBy w1 (some bm) ∧ w' = w1.setCell ⟨sb, 0, none⟩ (.int .i32 0) := by
  have hkey := keyOf_string_mk Try.underlying9 hs
  have c0 : w.cell? ⟨sb, 0, none⟩ = some (.int .i32 0) := by rw [cell_of_row w sb 0 _ _ _ hb]; rfl
  have c2 : w.cell? ⟨sb, 2, none⟩ = some (.map (some bm)) := by rw [cell_of_row w sb 2 _ _ _ hb]; rfl
  have f0 : w.frozen? ⟨sb, 0, none⟩ = false := frozen_of_row w sb 0 _ _ hb
  have HO : Hid _ := hown.setCell (a := ⟨sb, 0, none⟩) (show bm ≠ sb by omega) (.int .i32 1)
  have hh : Maps.has D (.string s.data.toList) = false := by rw [ht.has]; simpa using hin
  have hsz : Maps.size D = seen.length := ht.size
  have HA : Hid (ali seen s.data.toList = seen.length + 1) := ali_new hin
  have q32 : ∀ (w : World) (r : Option Nat), (binOp .eql 32 (.map r) (.map none)).run Try.prog w = .ok (.bool r.isNone) w := fun w r => run_eql_map_nil w _ _ _ r Try.underlying32
  clear hown ht
  go_enter_defers Try.func6, Try.ntmps6
  go_wp2_with (first
    | (go_at_call 8; refine (lock_free muLib ⟨sb, 0, none⟩ _ c0 f0).mono ?_; rintro e w' ⟨rfl, rfl⟩)
    | (at_lookup; refine wpList_lookup_own_ok_int _ rfl _ _ 32 rfl 9 35 .u64 law9 Try.underlying32 Try.underlying35 (zero35 _) bm n D rfl HO.out _ _ rfl hkey ?_; intro c hat hwc)
    | (at_len; refine wpList_len_own _ rfl _ 32 rfl 9 35 Try.underlying32 _ bm n D rfl HO.out ?_)
    | (at_mapUpdate; refine wpList_mapUpdate_own _ rfl _ _ _ 32 rfl 9 35 law9 Try.underlying32 _ bm n D rfl HO.out (by unfold maxLen; omega) _ _ _ rfl rfl hkey _ [] (plainElem_int (a := ((seen.length : Int) + 1)) Try.underlying35 (WalkArith.wf_u64 (by omega))) ?_; intro w1 hown1 hgrow1))
  have hb1 : (w.setCell ⟨sb, 0, none⟩ (.int .i32 1)).heap[sb]? = some (.cells #[.int .i32 1, .int .u32 0, .map (some bm)] 34 (0, 0)) := heap_setCell_same w sb 0 _ _ _ hb
  have hb2 : w1.heap[sb]? = some (.cells #[.int .i32 1, .int .u32 0, .map (some bm)] 34 (0, 0)) := by
    rw [hgrow1.block sb (Array.getElem?_eq_some_iff.1 hb1).1 (by intro e; cases e; omega)]; exact hb1
  refine leaves_cons (f := 9) (args := #[.pointer (some ⟨sb, 0, none⟩)]) (by simp) (by simp [go_sem]) ?_
  refine (unlock_deferred muLib ⟨sb, 0, none⟩ .returning _ (by rw [cell_of_row w1 sb 0 _ _ _ hb2]; rfl) (frozen_of_row w1 sb 0 _ _ hb2)).mono ?_
  rintro e u' w'' ⟨rfl, rfl, rfl⟩
  refine ⟨_, results_tmp rfl _ _ _, by rw [HA.out]; rfl, w1, ?_, hgrow1, rfl⟩
  rw [HA.out]; exact hown1

set_option maxHeartbeats 1600000 in
theorem of_first (sb : Nat) (s : ByteArray) (w : World) (hb : w.heap[sb]? = some (.cells #[.int .i32 0, .int .u32 0, .map none] 34 (0, 0))) (hs : s.size ≤ maxLen) :
    Calls Try.prog 6 #[.pointer (some ⟨sb, 0, none⟩), .string s] w fun e w' => e = .returned (.int .u64 1) ∧
      ∃ w1, w1.ownsMap Try.prog 9 (plainElem Try.prog 35) w.heap.size 1 (DataW.put (H := Unit) (.map []) (.string s.data.toList) (.lit (.int .u64 1))) ∧ (((w.setCell ⟨sb, 0, none⟩ (.int .i32 1)).setCell ⟨sb, 2, none⟩ (.map (some w.heap.size))).alloc (.map #[] 0)).grownBy w1 (some w.heap.size) ∧ w' = w1.setCell ⟨sb, 0, none⟩ (.int .i32 0) := by
  have hkey := keyOf_string_mk Try.underlying9 hs
  have hlt : sb < w.heap.size := (Array.getElem?_eq_some_iff.1 hb).1
  have c0 : w.cell? ⟨sb, 0, none⟩ = some (.int .i32 0) := by rw [cell_of_row w sb 0 _ _ _ hb]; rfl
  have c2 : w.cell? ⟨sb, 2, none⟩ = some (.map none) := by rw [cell_of_row w sb 2 _ _ _ hb]; rfl
  have f0 : w.frozen? ⟨sb, 0, none⟩ = false := frozen_of_row w sb 0 _ _ hb
  have f2 : w.frozen? ⟨sb, 2, none⟩ = false := frozen_of_row w sb 2 _ _ hb
  have hrun := look_nil (w := w.setCell ⟨sb, 0, none⟩ (.int .i32 1)) true law9 Try.underlying32 (zero35 _) hkey
  have hmm := @run_makeMap Try.prog
  have q32 : ∀ (w : World) (r : Option Nat), (binOp .eql 32 (.map r) (.map none)).run Try.prog w = .ok (.bool r.isNone) w := fun w r => run_eql_map_nil w _ _ _ r Try.underlying32
  have HM : Hid ((((w.setCell ⟨sb, 0, none⟩ (.int .i32 1)).setCell ⟨sb, 2, none⟩ (.map (some w.heap.size))).alloc (.map #[] 0)).ownsMap Try.prog 9 (plainElem Try.prog 35) w.heap.size 0 (DataW.map (H := Unit) [])) := by
    have h := World.ownsMap_made (H := Unit) ((w.setCell ⟨sb, 0, none⟩ (.int .i32 1)).setCell ⟨sb, 2, none⟩ (.map (some w.heap.size))) Try.prog 9 (plainElem Try.prog 35)
    have e : ((w.setCell ⟨sb, 0, none⟩ (.int .i32 1)).setCell ⟨sb, 2, none⟩ (.map (some w.heap.size))).heap.size = w.heap.size := by simp [World.setCell]
    rw [e] at h
    exact h
  go_enter_defers Try.func6, Try.ntmps6
  go_wp2_with (first
    | (go_at_call 8; refine (lock_free muLib ⟨sb, 0, none⟩ _ c0 f0).mono ?_; rintro e w' ⟨rfl, rfl⟩)
    | (at_len; refine wpList_len_own _ rfl _ 32 rfl 9 35 Try.underlying32 _ w.heap.size 0 _ rfl HM.out ?_)
    | (at_mapUpdate; refine wpList_mapUpdate_own _ rfl _ _ _ 32 rfl 9 35 law9 Try.underlying32 _ w.heap.size 0 _ rfl HM.out (by unfold maxLen; omega) _ _ _ rfl rfl hkey _ [] (plainElem_int (a := 1) Try.underlying35 (WalkArith.wf_u64 (by omega))) ?_; intro w1 hown1 hgrow1))
  have hb1 : ((w.setCell ⟨sb, 0, none⟩ (.int .i32 1)).setCell ⟨sb, 2, none⟩ (.map (some w.heap.size))).heap[sb]? = some (.cells #[.int .i32 1, .int .u32 0, .map (some w.heap.size)] 34 (0, 0)) :=
    heap_setCell_same _ sb 2 _ _ _ (heap_setCell_same w sb 0 _ _ _ hb)
  have hb2 : w1.heap[sb]? = some (.cells #[.int .i32 1, .int .u32 0, .map (some w.heap.size)] 34 (0, 0)) := by
    rw [hgrow1.block sb (by simp; omega) (by intro e; cases e; omega)]
    rw [Below.heap_alloc _ _ _ (by simp; omega)]; exact hb1
  refine leaves_cons (f := 9) (args := #[.pointer (some ⟨sb, 0, none⟩)]) (by simp) (by simp [go_sem]) ?_
  refine (unlock_deferred muLib ⟨sb, 0, none⟩ .returning _ (by rw [cell_of_row w1 sb 0 _ _ _ hb2]; rfl) (frozen_of_row w1 sb 0 _ _ hb2)).mono ?_
  rintro e u' w'' ⟨rfl, rfl, rfl⟩
  exact ⟨_, results_tmp rfl _ _ _, rfl, w1, hown1, hgrow1, rfl⟩

end Go.Proofs.Qxb6628448a

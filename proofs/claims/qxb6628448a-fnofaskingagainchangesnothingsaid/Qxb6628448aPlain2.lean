import Derived.Test.Qxb6628448aPlain
namespace Go.Proofs.Qxb6628448a
theorem ali_fold {y : Nm} (l : List Nm) : ∀ s : List Nm, y ∈ s → ali (l.foldl step s) y = ali s y ∧ y ∈ l.foldl step s := by
  induction l with
  | nil => intro s h; exact ⟨rfl, h⟩
  | cons x l ih =>
    intro s h
    have := ih (step s x) ((mem_step s x y).2 (.inl h))
    exact ⟨by rw [List.foldl_cons, this.1, ali_step h], this.2⟩

theorem run_take_succ {L : List Nm} {k : Nat} {y : Nm} (h : L[k]? = some y) : run (L.take (k + 1)) = step (run (L.take k)) y := by
  rw [List.take_add_one, h]; exact run_snoc _ _

theorem ali_end {L : List Nm} {k : Nat} {y x : Nm} (h : L[k]? = some y) : ali (step (run L) x) y = ali (run (L.take k)) y := by
  have h1 : run L = (L.drop (k + 1)).foldl step (run (L.take (k + 1))) := by
    unfold run; rw [← List.foldl_append, List.take_append_drop]
  have hm : y ∈ run (L.take (k + 1)) := by rw [run_take_succ h, mem_step]; exact .inr rfl
  have h2 := ali_fold (L.drop (k + 1)) (run (L.take (k + 1))) hm
  rw [← h1] at h2
  rw [ali_step h2.2, h2.1, run_take_succ h, ali_self]

theorem mem_fold (l : List Nm) (y : Nm) : ∀ s : List Nm, y ∈ l.foldl step s ↔ y ∈ s ∨ y ∈ l := by
  induction l with
  | nil => intro s; simp
  | cons x l ih => intro s; rw [List.foldl_cons, ih, mem_step]; simp [or_assoc]
theorem mem_run (l : List Nm) (y : Nm) : y ∈ run l ↔ y ∈ l := by unfold run; rw [mem_fold]; simp

def rl (L : List Nm) (k : Nat) : Nat := (run (L.take k)).length
def fnd (L : List Nm) (x : Nm) (k : Nat) : Bool := decide (x ∈ L.take k)
def xal (L : List Nm) (x : Nm) (k : Nat) : Nat := if x ∈ L.take k then ali (run (L.take k)) x else 0

theorem rl_le (L : List Nm) (k : Nat) : rl L k ≤ k := by
  unfold rl; have := run_length (L.take k); simp at this; omega
theorem rl_old {L : List Nm} {k : Nat} {y : Nm} (h : L[k]? = some y) (hm : y ∈ run (L.take k)) : rl L (k + 1) = rl L k := by
  unfold rl; rw [run_take_succ h, step_mem hm]
theorem rl_new {L : List Nm} {k : Nat} {y : Nm} (h : L[k]? = some y) (hm : ¬ y ∈ run (L.take k)) : rl L (k + 1) = rl L k + 1 := by
  unfold rl; rw [run_take_succ h, step_new hm]; simp
theorem ali_old {L : List Nm} {k : Nat} {y : Nm} (hm : y ∈ run (L.take k)) : ali (run (L.take k)) y ≤ rl L k := by
  unfold ali rl; have := List.idxOf_lt_length_of_mem hm; omega
theorem ali_fresh {L : List Nm} {k : Nat} {y : Nm} (hm : ¬ y ∈ run (L.take k)) : ali (run (L.take k)) y = rl L k + 1 := ali_new hm

theorem mem_take_succ {L : List Nm} {k : Nat} {y x : Nm} (h : L[k]? = some y) : x ∈ L.take (k + 1) ↔ x ∈ L.take k ∨ x = y := by
  rw [List.take_add_one, h]; simp
theorem fnd_hit {L : List Nm} {k : Nat} {y x : Nm} (h : L[k]? = some y) (hf : fnd L x k = true) : fnd L x (k + 1) = true ∧ xal L x (k + 1) = xal L x k := by
  unfold fnd xal at *
  simp at hf
  have h1 : x ∈ L.take (k + 1) := (mem_take_succ h).2 (.inl hf)
  refine ⟨by simpa using h1, ?_⟩
  rw [if_pos h1, if_pos hf, run_take_succ h, ali_step ((mem_run _ _).2 hf)]
theorem fnd_now {L : List Nm} {k : Nat} {x : Nm} (h : L[k]? = some x) : fnd L x (k + 1) = true ∧ xal L x (k + 1) = ali (run (L.take k)) x := by
  unfold fnd xal
  have h1 : x ∈ L.take (k + 1) := (mem_take_succ h).2 (.inr rfl)
  refine ⟨by simpa using h1, ?_⟩
  rw [if_pos h1, run_take_succ h, ali_self]
theorem fnd_not {L : List Nm} {k : Nat} {y x : Nm} (h : L[k]? = some y) (hf : fnd L x k = false) (hn : y ≠ x) : fnd L x (k + 1) = false ∧ xal L x (k + 1) = xal L x k := by
  unfold fnd xal at *
  simp at hf
  have h1 : ¬ x ∈ L.take (k + 1) := fun hh => by
    rcases (mem_take_succ h).1 hh with hh | hh
    · exact hf hh
    · exact hn hh.symm
  exact ⟨by simpa using h1, by rw [if_neg h1, if_neg hf]⟩
theorem want_hit {L : List Nm} {x : Nm} (hf : fnd L x L.length = true) : xal L x L.length = ali (run L) x := by
  unfold fnd xal at *
  simp at hf
  simp [hf]
theorem want_miss {L : List Nm} {x : Nm} (hf : fnd L x L.length = false) : rl L L.length + 1 = ali (run L) x := by
  unfold fnd rl at *
  simp at hf
  rw [ali_new (fun h => hf ((mem_run _ _).1 h))]; simp

def fv (L : List Nm) (k : Nat) : Nat := ali (run (L.take k)) (L.getD k [])
def frow (L : List Nm) (k : Nat) : List Nat := (List.range k).map (fv L) ++ List.replicate (L.length - k) 0
theorem frow_length (L : List Nm) (k : Nat) (h : k ≤ L.length) : (frow L k).length = L.length := by simp [frow]; omega
theorem frow_get (L : List Nm) (k i : Nat) (h : i < k) : (frow L k)[i]? = some (fv L i) := by
  unfold frow
  rw [List.getElem?_append_left (by simpa using h)]
  simp [h]
theorem frow_next (L : List Nm) (k : Nat) (h : k < L.length) : (frow L k).set k (fv L k) = frow L (k + 1) := by
  unfold frow
  rw [List.set_append, if_neg (by simp), List.length_map, List.length_range, Nat.sub_self, List.range_succ]
  have : L.length - k = (L.length - (k + 1)) + 1 := by omega
  rw [this, List.replicate_succ]
  simp
theorem fv_eq {L : List Nm} {k : Nat} {y : Nm} (h : L[k]? = some y) : fv L k = ali (run (L.take k)) y := by
  unfold fv; rw [List.getD, h]; rfl
theorem fv_le (L : List Nm) (k : Nat) : fv L k ≤ k + 1 := by
  unfold fv; have := ali_le (run (L.take k)) (L.getD k []); have := run_length (L.take k); simp at this; omega

end Go.Proofs.Qxb6628448a

namespace Go.Proofs.Qxb6628448a

abbrev Nm := List UInt8
def step (seen : List Nm) (x : Nm) : List Nm := if x ∈ seen then seen else seen ++ [x]
def ali (seen : List Nm) (x : Nm) : Nat := seen.idxOf x + 1
def run (l : List Nm) : List Nm := l.foldl step []

theorem step_mem {seen : List Nm} {x : Nm} (h : x ∈ seen) : step seen x = seen := by simp [step, h]
theorem step_new {seen : List Nm} {x : Nm} (h : ¬ x ∈ seen) : step seen x = seen ++ [x] := by simp [step, h]
theorem ali_new {seen : List Nm} {x : Nm} (h : ¬ x ∈ seen) : ali seen x = seen.length + 1 := by
  unfold ali; rw [List.idxOf_eq_length h]
theorem ali_le (seen : List Nm) (x : Nm) : ali seen x ≤ seen.length + 1 := by
  unfold ali; have := List.idxOf_le_length (a := x) (l := seen); omega
theorem step_length (seen : List Nm) (x : Nm) : (step seen x).length ≤ seen.length + 1 := by
  unfold step; split <;> simp
theorem mem_step (seen : List Nm) (x y : Nm) : y ∈ step seen x ↔ y ∈ seen ∨ y = x := by
  unfold step; split
  · constructor
    · exact .inl
    · rintro (h | rfl) <;> assumption
  · simp
theorem ali_step {seen : List Nm} {x y : Nm} (h : y ∈ seen) : ali (step seen x) y = ali seen y := by
  unfold step ali; split
  · rfl
  · rw [List.idxOf_append, if_pos h]
theorem ali_self (seen : List Nm) (x : Nm) : ali (step seen x) x = ali seen x := by
  by_cases h : x ∈ seen
  · rw [step_mem h]
  · rw [step_new h, ali_new h]; unfold ali
    rw [List.idxOf_append]; simp [h]

theorem run_snoc (l : List Nm) (x : Nm) : run (l ++ [x]) = step (run l) x := by simp [run, List.foldl_append]
theorem fold_length (l : List Nm) : ∀ s : List Nm, (l.foldl step s).length ≤ s.length + l.length := by
  induction l with
  | nil => intro s; simp
  | cons x l ih => intro s; have := ih (step s x); have := step_length s x; simp; omega
theorem run_length (l : List Nm) : (run l).length ≤ l.length := by have := fold_length l []; simpa [run] using this

end Go.Proofs.Qxb6628448a

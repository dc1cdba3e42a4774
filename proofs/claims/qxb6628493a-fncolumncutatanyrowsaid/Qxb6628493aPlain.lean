namespace Go.Proofs.Qxb6628493a

def Pm : Nat := 2305843009213693951
def fadd (a b : Nat) : Nat := (a + b) % Pm
def fmul (a b : Nat) : Nat := (a * b) % Pm
theorem Pm_pos : 0 < Pm := by decide
theorem Pm_eq : Pm = 2305843009213693951 := rfl
theorem fadd_lt (a b : Nat) : fadd a b < Pm := Nat.mod_lt _ Pm_pos
theorem fmul_lt (a b : Nat) : fmul a b < Pm := Nat.mod_lt _ Pm_pos

def sum : Nat → (Nat → Nat) → Nat
  | 0, _ => 0
  | m + 1, f => sum m f + f m
theorem sum_congr {m : Nat} {f g : Nat → Nat} (h : ∀ i, i < m → f i = g i) : sum m f = sum m g := by
  induction m with
  | zero => rfl
  | succ m ih => simp only [sum]; rw [ih (fun i hi => h i (by omega)), h m (by omega)]
theorem sum_add (m : Nat) (f g : Nat → Nat) : sum m (fun i => f i + g i) = sum m f + sum m g := by
  induction m with
  | zero => rfl
  | succ m ih => simp only [sum]; rw [ih]; omega
theorem sum_mul (m : Nat) (f : Nat → Nat) (c : Nat) : sum m (fun i => c * f i) = c * sum m f := by
  induction m with
  | zero => simp [sum]
  | succ m ih => simp only [sum]; rw [ih, Nat.mul_add]
theorem sum_zero (m : Nat) : sum m (fun _ => 0) = 0 := by
  induction m with
  | zero => rfl
  | succ m ih => simp only [sum, ih]
theorem sum_more {m e : Nat} {f : Nat → Nat} (h : ∀ i, m ≤ i → f i = 0) : sum (m + e) f = sum m f := by
  induction e with
  | zero => rfl
  | succ e ih => rw [← Nat.add_assoc]; simp only [sum]; rw [ih, h _ (by omega)]; rfl
theorem sum_split (m e : Nat) (f : Nat → Nat) : sum (m + e) f = sum m f + sum e (fun i => f (m + i)) := by
  induction e with
  | zero => simp [sum]
  | succ e ih => rw [← Nat.add_assoc]; simp only [sum]; rw [ih]; omega

abbrev Rows := List (List Nat)
def coef (f : List (List Nat)) (k l : Nat) : Nat := (f.getD k []).getD l 0
def S (f : List (List Nat)) (x k l : Nat) : Nat := sum k (fun i => coef f i l * x ^ i)
def col (f : List (List Nat)) (x n : Nat) : List Nat := (List.range n).map (fun l => S f x f.length l % Pm)

theorem S_zero (f : List (List Nat)) (x l : Nat) : S f x 0 l = 0 := rfl
theorem S_succ (f : List (List Nat)) (x k l : Nat) : S f x (k + 1) l = S f x k l + coef f k l * x ^ k := rfl

def part (f : List (List Nat)) (x n k j : Nat) : List Nat := (List.range n).map (fun l => (if l < j then S f x (k + 1) l else S f x k l) % Pm)
theorem part_length (f : List (List Nat)) (x n k j : Nat) : (part f x n k j).length = n := by simp [part]
theorem part_get (f : List (List Nat)) (x n k j l : Nat) (h : l < n) : (part f x n k j)[l]? = some ((if l < j then S f x (k + 1) l else S f x k l) % Pm) := by simp [part, h]
theorem part_start (f : List (List Nat)) (x n : Nat) : part f x n 0 0 = List.replicate n 0 := by
  apply List.ext_getElem?
  intro i
  by_cases h : i < n
  · rw [part_get _ _ _ _ _ _ h]; simp [h, S_zero]
  · rw [List.getElem?_eq_none (by simp [part]; omega), List.getElem?_eq_none (by simp; omega)]
theorem part_row (f : List (List Nat)) (x n k j : Nat) (h : ∀ l, j ≤ l → coef f k l = 0) : part f x n k j = part f x n (k + 1) 0 := by
  unfold part
  apply List.map_congr_left
  intro l _
  by_cases hl : l < j
  · simp [hl]
  · simp [hl, S_succ, h l (by omega)]
theorem part_end (f : List (List Nat)) (x n : Nat) : part f x n f.length 0 = col f x n := by
  unfold part col; simp
theorem step_mod (A c p x k : Nat) (hp : p = x ^ k % Pm) : fadd (A % Pm) (fmul c p) = (A + c * x ^ k) % Pm := by
  unfold fadd fmul
  rw [hp, Nat.mul_mod, Nat.mod_mod, ← Nat.mul_mod, ← Nat.add_mod]
theorem part_next (f : List (List Nat)) (x n k j p : Nat) (hj : j < n) (hp : p = x ^ k % Pm) :
    (part f x n k j).set j (fadd (S f x k j % Pm) (fmul (coef f k j) p)) = part f x n k (j + 1) := by
  apply List.ext_getElem?
  intro i
  by_cases h : i < n
  · rw [List.getElem?_set]
    by_cases e : j = i
    · subst e
      rw [if_pos rfl, part_length, if_pos hj, part_get _ _ _ _ _ _ h, step_mod _ _ _ _ _ hp]
      simp [S_succ]
    · rw [if_neg e, part_get _ _ _ _ _ _ h, part_get _ _ _ _ _ _ h]
      by_cases hl : i < j
      · simp [hl, show i < j + 1 by omega]
      · simp [hl, show ¬ i < j + 1 by omega]
  · rw [List.getElem?_eq_none (by simp [part]; omega), List.getElem?_eq_none (by simp [part]; omega)]
theorem pow_next (x k : Nat) : fmul (x ^ k % Pm) x = x ^ (k + 1) % Pm := by
  unfold fmul; rw [Nat.pow_succ, Nat.mod_mul_mod]

theorem col_length (f : List (List Nat)) (x n : Nat) : (col f x n).length = n := by simp [col]
theorem col_get (f : List (List Nat)) (x n l : Nat) (h : l < n) : (col f x n)[l]? = some (S f x f.length l % Pm) := by simp [col, h]

def lowerOf (f : List (List Nat)) (c : Nat) : List (List Nat) := f.take c ++ List.replicate (f.length - c) []
def upperOf (f : List (List Nat)) (c : Nat) : List (List Nat) := f.drop c ++ List.replicate c []
theorem coef_past (f : List (List Nat)) (k l : Nat) (h : f.length ≤ k) : coef f k l = 0 := by
  unfold coef; simp [List.getD, List.getElem?_eq_none h]
theorem coef_lower (f : List (List Nat)) (c k l : Nat) (hc : c ≤ f.length) : coef (lowerOf f c) k l = if k < c then coef f k l else 0 := by
  unfold coef lowerOf
  simp only [List.getD, List.getElem?_append, List.length_take, Nat.min_eq_left hc]
  by_cases h : k < c
  · simp [h]
  · simp only [h, if_false, List.getElem?_replicate]
    split <;> simp
theorem coef_upper (f : List (List Nat)) (c k l : Nat) (hc : c ≤ f.length) : coef (upperOf f c) k l = coef f (c + k) l := by
  unfold coef upperOf
  simp only [List.getD, List.getElem?_append, List.length_drop]
  by_cases h : k < f.length - c
  · rw [if_pos h, List.getElem?_drop]
  · simp only [h, if_false, List.getElem?_replicate]
    rw [List.getElem?_eq_none (show f.length ≤ c + k by omega)]
    split <;> simp
theorem lower_length (f : List (List Nat)) (c : Nat) (hc : c ≤ f.length) : (lowerOf f c).length = f.length := by simp [lowerOf]; omega
theorem upper_length (f : List (List Nat)) (c : Nat) (hc : c ≤ f.length) : (upperOf f c).length = f.length := by simp [upperOf]; omega

theorem S_lower (f : List (List Nat)) (x c l : Nat) (hc : c ≤ f.length) : S (lowerOf f c) x f.length l = S f x c l := by
  unfold S
  obtain ⟨e, he⟩ : ∃ e, f.length = c + e := ⟨f.length - c, by omega⟩
  rw [he, sum_more (m := c) (f := fun i => coef (lowerOf f c) i l * x ^ i) (fun i hi => by rw [coef_lower f c i l hc, if_neg (by omega)]; simp)]
  exact sum_congr fun i hi => by rw [coef_lower f c i l hc, if_pos hi]
theorem S_upper (f : List (List Nat)) (x c l : Nat) (hc : c ≤ f.length) : x ^ c * S (upperOf f c) x f.length l = sum (f.length - c) (fun i => coef f (c + i) l * x ^ (c + i)) := by
  unfold S
  have e : f.length = (f.length - c) + c := by omega
  have h1 : sum f.length (fun i => coef (upperOf f c) i l * x ^ i) = sum (f.length - c) (fun i => coef (upperOf f c) i l * x ^ i) := by
    have := sum_more (m := f.length - c) (e := c) (f := fun i => coef (upperOf f c) i l * x ^ i) (fun i hi => by rw [coef_upper f c i l hc, coef_past f _ _ (by omega)]; simp)
    rw [← e] at this
    exact this
  rw [h1, ← sum_mul]
  exact sum_congr fun i _ => by rw [coef_upper f c i l hc, Nat.pow_add, Nat.mul_left_comm]
theorem S_cut (f : List (List Nat)) (x c l : Nat) (hc : c ≤ f.length) : S f x f.length l = S (lowerOf f c) x f.length l + x ^ c * S (upperOf f c) x f.length l := by
  rw [S_lower f x c l hc, S_upper f x c l hc]
  have e : f.length = c + (f.length - c) := by omega
  conv => lhs; rw [e]
  unfold S
  rw [sum_split]
theorem cut_law (f : List (List Nat)) (x c l p : Nat) (hc : c ≤ f.length) (hp : p = x ^ c % Pm) :
    fadd (S (lowerOf f c) x f.length l % Pm) (fmul p (S (upperOf f c) x f.length l % Pm)) = S f x f.length l % Pm := by
  unfold fadd fmul
  rw [hp, ← Nat.mul_mod, ← Nat.add_mod, ← S_cut f x c l hc]
theorem S_at0 (f : List (List Nat)) (n l : Nat) : S f 0 (n + 1) l = coef f 0 l := by
  induction n with
  | zero => simp [S, sum]
  | succ n ih => rw [S_succ, ih]; simp

def padOf (f : List (List Nat)) (e : Nat) : List (List Nat) := f ++ List.replicate e []
theorem coef_pad (f : List (List Nat)) (e k l : Nat) : coef (padOf f e) k l = coef f k l := by
  unfold coef padOf
  simp only [List.getD, List.getElem?_append]
  by_cases h : k < f.length
  · simp [h]
  · simp only [h, if_false, List.getElem?_replicate]
    rw [List.getElem?_eq_none (show f.length ≤ k by omega)]
    split <;> simp
theorem S_pad (f : List (List Nat)) (e x l : Nat) : S (padOf f e) x (f.length + e) l = S f x f.length l := by
  have h : S (padOf f e) x (f.length + e) l = S f x (f.length + e) l := by
    unfold S; exact sum_congr fun i _ => by rw [coef_pad]
  rw [h]; unfold S
  exact sum_more fun i hi => by rw [coef_past f i l hi]; simp
theorem S_wide (f : List (List Nat)) (x k l n : Nat) (hn : ∀ r ∈ f, r.length ≤ n) (hl : n ≤ l) : S f x k l = 0 := by
  unfold S
  have : ∀ i, coef f i l = 0 := by
    intro i
    unfold coef
    by_cases h : i < f.length
    · have hm := hn _ (List.getElem_mem h)
      have e : f.getD i [] = f[i] := by simp [List.getD, List.getElem?_eq_getElem h]
      rw [e, List.getD, List.getElem?_eq_none (by omega)]; rfl
    · exact coef_past f i l (by omega)
  rw [sum_congr (g := fun _ => 0) (fun i _ => by rw [this]; simp), sum_zero]

def horner (f : List (List Nat)) (x y n j : Nat) : Nat := sum (n - j) (fun i => (S f x f.length (j + i)) * y ^ i)
theorem horner_end (f : List (List Nat)) (x y n : Nat) : horner f x y n n = 0 := by simp [horner, sum]
theorem sum_shift (m : Nat) (f : Nat → Nat) : sum (m + 1) f = f 0 + sum m (fun i => f (i + 1)) := by
  induction m with
  | zero => simp [sum]
  | succ m ih => rw [sum, ih]; simp only [sum]; omega
theorem horner_step (f : List (List Nat)) (x y n j : Nat) (hj : j < n) : horner f x y n j = horner f x y n (j + 1) * y + S f x f.length j := by
  unfold horner
  have e : n - j = (n - (j + 1)) + 1 := by omega
  rw [e, sum_shift]
  simp only [Nat.add_zero, Nat.pow_zero, Nat.mul_one]
  have : (fun i => S f x f.length (j + (i + 1)) * y ^ (i + 1)) = fun i => y * (S f x f.length (j + 1 + i) * y ^ i) := by
    funext i
    rw [show j + (i + 1) = j + 1 + i by omega, Nat.pow_succ, ← Nat.mul_assoc, Nat.mul_comm]
  rw [this, sum_mul, Nat.mul_comm y, Nat.add_comm]
theorem horner_mod (H y c : Nat) : fadd (fmul (H % Pm) y) (c % Pm) = (H * y + c) % Pm := by
  unfold fadd fmul
  rw [Nat.mod_mul_mod, ← Nat.add_mod]

def inner (f : List (List Nat)) (y k j : Nat) : Nat := sum j (fun l => coef f k l * y ^ l)
def direct (f : List (List Nat)) (x y n k : Nat) : Nat := sum k (fun i => x ^ i * inner f y i n)
theorem direct_step (D c px py x y k l : Nat) (hx : px = x ^ k % Pm) (hy : py = y ^ l % Pm) : fadd (D % Pm) (fmul (fmul c px) py) = (D + x ^ k * (c * y ^ l)) % Pm := by
  unfold fadd fmul
  rw [hx, hy]
  have : (c * (x ^ k % Pm) % Pm * (y ^ l % Pm)) % Pm = (x ^ k * (c * y ^ l)) % Pm := by
    rw [← Nat.mul_mod]
    have e : c * (x ^ k % Pm) * y ^ l = c * y ^ l * (x ^ k % Pm) := by rw [Nat.mul_right_comm]
    rw [e, Nat.mul_comm (x ^ k), Nat.mul_mod (c * y ^ l) (x ^ k), Nat.mul_mod (c * y ^ l) (x ^ k % Pm), Nat.mod_mod]
  rw [this, ← Nat.add_mod]
theorem inner_all (f : List (List Nat)) (y k j n : Nat) (hj : j ≤ n) (h : ∀ l, j ≤ l → coef f k l = 0) : inner f y k j = inner f y k n := by
  unfold inner
  obtain ⟨e, rfl⟩ : ∃ e, n = j + e := ⟨n - j, by omega⟩
  exact (sum_more fun i hi => by rw [h i hi]; simp).symm
theorem swap (f : List (List Nat)) (x y n k : Nat) : sum n (fun l => S f x k l * y ^ l) = direct f x y n k := by
  induction k with
  | zero =>
    unfold direct
    rw [sum_congr (g := fun _ => 0) (fun i _ => by rw [S_zero]; simp), sum_zero]; rfl
  | succ k ih =>
    have : (fun l => S f x (k + 1) l * y ^ l) = fun l => S f x k l * y ^ l + x ^ k * (coef f k l * y ^ l) := by
      funext l
      rw [S_succ, Nat.add_mul, Nat.mul_comm (coef f k l), Nat.mul_assoc]
    rw [this, sum_add, ih, sum_mul]
    rfl
theorem value_law (f : List (List Nat)) (x y n : Nat) : horner f x y n 0 = direct f x y n f.length := by
  rw [← swap]; unfold horner; simp

end Go.Proofs.Qxb6628493a

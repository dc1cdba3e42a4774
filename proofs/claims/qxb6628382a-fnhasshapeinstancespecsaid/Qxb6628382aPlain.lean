namespace Go.Proofs.Qxb6628382a

def up (c : UInt8) : Bool := decide (65 ≤ (c.toNat : Int) ∧ (c.toNat : Int) ≤ 90)
def dg (c : UInt8) : Bool := decide (48 ≤ (c.toNat : Int) ∧ (c.toNat : Int) ≤ 57)
def ok1 (c s : UInt8) : Bool := if up s then dg c else c == s
def hs : List UInt8 → List UInt8 → Bool
  | _, [] => true
  | [], _ :: _ => false
  | c :: b, s :: t => ok1 c s && hs b t

theorem hs_iff (b s : List UInt8) : hs b s = true ↔ s.length ≤ b.length ∧ ∀ (i : Nat) (c d : UInt8), b[i]? = some c → s[i]? = some d → ok1 c d = true := by
  induction s generalizing b with
  | nil => simp [hs]
  | cons x t ih =>
    cases b with
    | nil => simp [hs]
    | cons y b =>
      simp only [hs, Bool.and_eq_true, ih, List.length_cons, Nat.add_le_add_iff_right]
      constructor
      · rintro ⟨h1, h2, h3⟩
        refine ⟨h2, fun i c d hc hd => ?_⟩
        cases i with
        | zero => simp at hc hd; subst hc hd; exact h1
        | succ i => exact h3 i c d (by simpa using hc) (by simpa using hd)
      · rintro ⟨h2, h3⟩
        exact ⟨h3 0 y x (by simp) (by simp), h2, fun i c d hc hd => h3 (i + 1) c d (by simpa using hc) (by simpa using hd)⟩

theorem hs_false {b s : List UInt8} {k : Nat} {c d : UInt8} (hc : b[k]? = some c) (hd : s[k]? = some d) (h : ok1 c d = false) : hs b s = false := by
  rw [Bool.eq_false_iff]
  intro ht
  have := ((hs_iff b s).1 ht).2 k c d hc hd
  rw [h] at this; cases this

theorem hs_short {b s : List UInt8} (h : b.length < s.length) : hs b s = false := by
  rw [Bool.eq_false_iff]
  intro ht
  have := ((hs_iff b s).1 ht).1
  omega

theorem hs_true {b s : List UInt8} (h : s.length ≤ b.length) (hk : ∀ j : Nat, j < s.length → ∀ c d : UInt8, b[j]? = some c → s[j]? = some d → ok1 c d = true) : hs b s = true :=
  (hs_iff b s).2 ⟨h, fun i c d hc hd => hk i (List.getElem?_eq_some_iff.1 hd).1 c d hc hd⟩

theorem ok1_up {c s : UInt8} (h : up s = true) : ok1 c s = dg c := by simp [ok1, h]
theorem ok1_no {c s : UInt8} (h : up s = false) : ok1 c s = (c == s) := by simp [ok1, h]

def noUp (b : List UInt8) : Bool := b.all fun c => !up c

theorem up_dg {c : UInt8} (h : up c = true) : dg c = false := by
  unfold up dg at *; simp at *; omega

theorem ok1_self (c : UInt8) : ok1 c c = !up c := by
  cases h : up c
  · simp [ok1, h]
  · simp [ok1, h, up_dg h]

theorem self1 (b t : List UInt8) : hs (b ++ t) b = noUp b := by
  rw [Bool.eq_iff_iff, hs_iff]
  unfold noUp
  rw [List.all_eq_true]
  constructor
  · rintro ⟨_, h⟩ c hc
    obtain ⟨i, hi, rfl⟩ := List.mem_iff_getElem.1 hc
    have := h i b[i] b[i] (by simp [List.getElem?_append, hi]) (by simp [hi])
    rwa [ok1_self] at this
  · intro h
    refine ⟨by simp, fun i c d hc hd => ?_⟩
    have hi := (List.getElem?_eq_some_iff.1 hd).1
    rw [List.getElem?_append_left hi, hd] at hc
    cases hc
    rw [ok1_self]
    exact h _ (List.mem_of_getElem? hd)

theorem self2 (b t : List UInt8) : hs b (b ++ t) = (decide (t.length = 0) && noUp b) := by
  cases t with
  | nil => have := self1 b []; simpa using this
  | cons x t => rw [hs_short (by simp)]; simp

def qq (c : UInt8) : UInt8 := if up c then 81 else c
theorem up_qq (c : UInt8) : up (qq c) = up c := by
  unfold qq
  cases h : up c
  · simp [h]
  · simp; decide
theorem ok1_qq (c s : UInt8) : ok1 c (qq s) = ok1 c s := by
  cases h : up s
  · rw [show qq s = s by simp [qq, h]]
  · rw [ok1_up h, ok1_up (by rw [up_qq, h])]
theorem self3 (b s : List UInt8) : hs b (s.map qq) = hs b s := by
  induction s generalizing b with
  | nil => simp [hs]
  | cons x t ih =>
    cases b with
    | nil => simp [hs]
    | cons y b => simp [hs, ih, ok1_qq]

theorem self4 (b t s : List UInt8) (h : s.length ≤ b.length) : hs (b ++ t) s = hs b s := by
  induction s generalizing b with
  | nil => cases b <;> simp [hs]
  | cons x s ih =>
    cases b with
    | nil => simp at h
    | cons y b => simp at h; simp [hs, ih b h]

def digAt (i : Nat) : UInt8 := UInt8.ofNat (48 + i % 10)
theorem dg_digAt (i : Nat) : dg (digAt i) = true := by
  unfold dg digAt
  have h : i % 10 < 10 := Nat.mod_lt _ (by omega)
  have : (UInt8.ofNat (48 + i % 10)).toNat = 48 + i % 10 := by
    rw [UInt8.toNat_ofNat']; omega
  rw [this]; simp; omega

def instAt (b : List UInt8) (i : Nat) (s : UInt8) : UInt8 :=
  if up s then (if dg (b.getD i 0) && decide (i < b.length) then b.getD i 0 else digAt i) else s
def inst (b s : List UInt8) : List UInt8 := s.mapIdx fun i c => instAt b i c

theorem inst_length (b s : List UInt8) : (inst b s).length = s.length := by simp [inst]
theorem inst_get (b s : List UInt8) (i : Nat) : (inst b s)[i]? = (s[i]?).map (instAt b i) := by simp [inst]

theorem ok1_instAt (b : List UInt8) (i : Nat) (s : UInt8) : ok1 (instAt b i s) s = true := by
  unfold ok1 instAt
  cases h : up s
  · simp
  · simp only [if_true]
    split
    · next h2 => simp at h2; simpa using h2.1
    · exact dg_digAt i

theorem inst1 (b s : List UInt8) : hs b s = (decide (s.length ≤ b.length) && (inst b s == b.take s.length)) := by
  rw [Bool.eq_iff_iff, hs_iff]
  simp only [Bool.and_eq_true, decide_eq_true_eq, beq_iff_eq]
  constructor
  · rintro ⟨h1, h2⟩
    refine ⟨h1, ?_⟩
    apply List.ext_getElem?
    intro i
    rw [inst_get, List.getElem?_take]
    by_cases hi : i < s.length
    · rw [if_pos hi]
      obtain ⟨c, hc⟩ : ∃ c, b[i]? = some c := ⟨b[i], List.getElem?_eq_getElem (by omega)⟩
      obtain ⟨d, hd⟩ : ∃ d, s[i]? = some d := ⟨s[i], List.getElem?_eq_getElem hi⟩
      have := h2 i c d hc hd
      rw [hc, hd]
      simp only [Option.map_some, Option.some.injEq]
      unfold ok1 at this
      unfold instAt
      have hg : b.getD i 0 = c := by simp [List.getD, hc]
      rw [hg]
      have hib : i < b.length := by omega
      cases hu : up d
      · simp [hu] at this; simp [this]
      · simp [hu] at this; simp [this, hib]
    · rw [if_neg hi, List.getElem?_eq_none (by omega)]; rfl
  · rintro ⟨h1, h2⟩
    refine ⟨h1, fun i c d hc hd => ?_⟩
    have hi := (List.getElem?_eq_some_iff.1 hd).1
    have := congrArg (fun l => l[i]?) h2
    simp only [inst_get, List.getElem?_take, if_pos hi, hc, hd, Option.map_some, Option.some.injEq] at this
    rw [← this]; exact ok1_instAt b i d

theorem inst2 (b s t : List UInt8) : hs (inst b s ++ t) s = true := by
  rw [hs_iff]
  refine ⟨by simp [inst_length], fun i c d hc hd => ?_⟩
  have hi := (List.getElem?_eq_some_iff.1 hd).1
  rw [List.getElem?_append_left (by rw [inst_length]; exact hi), inst_get, hd] at hc
  simp at hc
  rw [← hc]; exact ok1_instAt b i d

def spoil (c : UInt8) : UInt8 := if up c then c else c ^^^ 1
theorem ok1_spoil (c : UInt8) : ok1 (spoil c) c = false := by
  have h : ∀ n : Fin 256, ok1 (spoil (UInt8.ofFin n)) (UInt8.ofFin n) = false := by decide +kernel
  exact h c.toFin

theorem inst3 (b s t : List UInt8) (j : Nat) (d : UInt8) (hd : s[j]? = some d) : hs ((inst b s ++ t).set j (spoil d)) s = false := by
  have hi := (List.getElem?_eq_some_iff.1 hd).1
  refine hs_false (k := j) (c := spoil d) (d := d) ?_ hd (ok1_spoil d)
  rw [List.getElem?_set_self (by simp [inst_length]; omega)]

theorem inst4 (b s : List UInt8) (k : Nat) (hk : k ≤ s.length) : hs b s = (hs b (s.take k) && (decide (k ≤ b.length) && hs (b.drop k) (s.drop k))) := by
  induction k generalizing b s with
  | zero => cases b <;> simp [hs]
  | succ k ih =>
    cases s with
    | nil => simp at hk
    | cons x s =>
      simp at hk
      cases b with
      | nil => simp [hs]
      | cons y b => simp [hs, ih b s hk, Bool.and_assoc]

end Go.Proofs.Qxb6628382a

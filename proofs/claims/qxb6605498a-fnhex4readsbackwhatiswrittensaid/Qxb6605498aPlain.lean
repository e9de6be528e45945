/-
  THE PLAIN MATHEMATICS OF THIS SEAT: no Go in sight. Bytes are given by an index function 'd : Nat -> Int', 'n' of them.
-/
namespace Go.Proofs.Qxb6605498a.Plain

/-- A decimal digit. -/
def dig (c : Int) : Bool := decide (48 ≤ c) && decide (c ≤ 57)
theorem dig_iff (c : Int) : dig c = true ↔ 48 ≤ c ∧ c ≤ 57 := by simp [dig]
theorem dig_not (c : Int) : dig c = false ↔ c < 48 ∨ 57 < c := by
  rw [← Bool.not_eq_true, dig_iff]; omega

/-! ### skipDigits -/
def skdF (d : Nat → Int) (n : Nat) : Nat → Nat → Nat
  | 0, i => i
  | f + 1, i => if i < n ∧ dig (d i) = true then skdF d n f (i + 1) else i
def skd (d : Nat → Int) (n i : Nat) : Nat := skdF d n (n - i) i

theorem skd_stop {d : Nat → Int} {n i : Nat} (h : ¬ (i < n ∧ dig (d i) = true)) : skd d n i = i := by
  unfold skd
  cases hf : n - i with
  | zero => rfl
  | succ f => rw [skdF, if_neg h]
theorem skd_hit {d : Nat → Int} {n i : Nat} (h : i < n) (hd : dig (d i) = true) : skd d n i = skd d n (i + 1) := by
  unfold skd
  obtain ⟨f, hf⟩ : ∃ f, n - i = f + 1 := ⟨n - i - 1, by omega⟩
  rw [hf, skdF, if_pos ⟨h, hd⟩, show n - (i + 1) = f by omega]

/-- Induction over the digits that are skipped. -/
theorem skd_ind {d : Nat → Int} {n : Nat} {motive : Nat → Prop} (stop : ∀ i, ¬ (i < n ∧ dig (d i) = true) → motive i)
    (hit : ∀ i, i < n → dig (d i) = true → motive (i + 1) → motive i) (i : Nat) : motive i := by
  obtain ⟨f, hf⟩ : ∃ f, f = n - i := ⟨_, rfl⟩
  induction f generalizing i with
  | zero => exact stop i (fun h => by have := h.1; omega)
  | succ f ih =>
    by_cases h : i < n ∧ dig (d i) = true
    · exact hit i h.1 h.2 (ih (i + 1) (by omega))
    · exact stop i h

theorem skd_ge (d : Nat → Int) (n i : Nat) : i ≤ skd d n i := by
  refine skd_ind (d := d) (n := n) (motive := fun i => i ≤ skd d n i) ?_ ?_ i
  · intro i h; rw [skd_stop h]; exact Nat.le_refl _
  · intro i h1 h2 ih; rw [skd_hit h1 h2]; omega
theorem skd_le (d : Nat → Int) (n i : Nat) : i ≤ n → skd d n i ≤ n := by
  refine skd_ind (d := d) (n := n) (motive := fun i => i ≤ n → skd d n i ≤ n) ?_ ?_ i
  · intro i h hi; rw [skd_stop h]; exact hi
  · intro i h1 h2 ih hi; rw [skd_hit h1 h2]; exact ih (by omega)
theorem skd_end (d : Nat → Int) (n i : Nat) : ¬ (skd d n i < n ∧ dig (d (skd d n i)) = true) := by
  refine skd_ind (d := d) (n := n) (motive := fun i => ¬ (skd d n i < n ∧ dig (d (skd d n i)) = true)) ?_ ?_ i
  · intro i h; rw [skd_stop h]; exact h
  · intro i h1 h2 ih; rw [skd_hit h1 h2]; exact ih
theorem skd_gt {d : Nat → Int} {n i : Nat} (h : i < n) (hd : dig (d i) = true) : i < skd d n i := by
  rw [skd_hit h hd]; have := skd_ge d n (i + 1); omega
/-- The same digits in a shifted row. -/
theorem skd_shift (d : Nat → Int) (n s : Nat) (i : Nat) : s ≤ n → skd (fun k => d (s + k)) (n - s) i + s = skd d n (i + s) := by
  refine skd_ind (d := fun k => d (s + k)) (n := n - s) (motive := fun i => s ≤ n → skd (fun k => d (s + k)) (n - s) i + s = skd d n (i + s)) ?_ ?_ i
  · intro i h hs
    rw [skd_stop h, skd_stop (d := d)]
    intro ⟨h1, h2⟩
    exact h ⟨by omega, by rw [Nat.add_comm]; exact h2⟩
  · intro i h1 h2 ih hs
    rw [skd_hit h1 h2, ih hs, skd_hit (d := d) (i := i + s) (by omega) (by rw [Nat.add_comm]; exact h2)]
    congr 1; omega
/-- A row cut off behind the digits. -/
theorem skd_cut (d : Nat → Int) (n m : Nat) (i : Nat) : skd d n i ≤ m → m ≤ n → skd d m i = skd d n i := by
  refine skd_ind (d := d) (n := n) (motive := fun i => skd d n i ≤ m → m ≤ n → skd d m i = skd d n i) ?_ ?_ i
  · intro i h h1 h2
    rw [skd_stop h, skd_stop]
    intro ⟨h3, h4⟩
    exact h ⟨by omega, h4⟩
  · intro i h1 h2 ih h3 h4
    rw [skd_hit h1 h2] at h3 ⊢
    have := skd_ge d n (i + 1)
    rw [skd_hit (n := m) (by omega) h2, ih h3 h4]

/-! ### scanNumber -/
abbrev Ans := Nat × Bool × Bool × Bool
def signed (d : Nat → Int) (n j : Nat) : Nat := if j < n ∧ (d j = 43 ∨ d j = 45) then j + 1 else j
def expo (d : Nat → Int) (n : Nat) (f : Bool) (i : Nat) : Ans :=
  if i < n ∧ (d i = 101 ∨ d i = 69) then
    (if signed d n (i + 1) < n ∧ dig (d (signed d n (i + 1))) = true then (skd d n (signed d n (i + 1)), f, true, true) else (signed d n (i + 1), f, true, false))
  else (i, f, false, true)
def frac (d : Nat → Int) (n i : Nat) : Ans :=
  if i < n ∧ d i = 46 then (if i + 1 < n ∧ dig (d (i + 1)) = true then expo d n true (skd d n (i + 1)) else (i + 1, true, false, false))
  else expo d n false i
def minus (d : Nat → Int) (s : Nat) : Nat := if d s = 45 then s + 1 else s
def scan (d : Nat → Int) (n s : Nat) : Ans :=
  if minus d s < n ∧ d (minus d s) = 48 then frac d n (minus d s + 1)
  else if minus d s < n ∧ dig (d (minus d s)) = true then frac d n (skd d n (minus d s))
  else (minus d s, false, false, false)
/-- What is left behind the sign. -/
def whole (d : Nat → Int) (n m : Nat) : Ans :=
  if m < n ∧ d m = 48 then frac d n (m + 1) else if m < n ∧ dig (d m) = true then frac d n (skd d n m) else (m, false, false, false)
theorem scan_minus {d : Nat → Int} {n s : Nat} (h : d s = 45) : scan d n s = whole d n (s + 1) := by
  have e : minus d s = s + 1 := by unfold minus; rw [if_pos h]
  unfold scan whole; rw [e]
theorem scan_plain {d : Nat → Int} {n s : Nat} (h : ¬ d s = 45) : scan d n s = whole d n s := by
  have e : minus d s = s := by unfold minus; rw [if_neg h]
  unfold scan whole; rw [e]
theorem whole_zero {d : Nat → Int} {n m : Nat} (h : m < n) (h2 : d m = 48) : whole d n m = frac d n (m + 1) := by unfold whole; rw [if_pos ⟨h, h2⟩]
theorem whole_dig {d : Nat → Int} {n m : Nat} (h : m < n) (h1 : ¬ d m = 48) (h2 : dig (d m) = true) : whole d n m = frac d n (skd d n m) := by
  unfold whole; rw [if_neg (fun q => h1 q.2), if_pos ⟨h, h2⟩]
theorem whole_no {d : Nat → Int} {n m : Nat} (h : m < n → dig (d m) = false) : whole d n m = (m, false, false, false) := by
  unfold whole
  have h1 : ¬ (m < n ∧ dig (d m) = true) := fun q => by have := h q.1; rw [q.2] at this; exact absurd this (by simp)
  have h2 : ¬ (m < n ∧ d m = 48) := fun q => h1 ⟨q.1, by rw [q.2]; rfl⟩
  rw [if_neg h2, if_neg h1]
theorem frac_none {d : Nat → Int} {n i : Nat} (h : ¬ (i < n ∧ d i = 46)) : frac d n i = expo d n false i := by unfold frac; rw [if_neg h]
theorem frac_yes {d : Nat → Int} {n i : Nat} (h : i < n) (h1 : d i = 46) (h2 : i + 1 < n) (h3 : dig (d (i + 1)) = true) : frac d n i = expo d n true (skd d n (i + 1)) := by
  unfold frac; rw [if_pos ⟨h, h1⟩, if_pos ⟨h2, h3⟩]
theorem frac_no {d : Nat → Int} {n i : Nat} (h : i < n) (h1 : d i = 46) (h2 : i + 1 < n → dig (d (i + 1)) = false) : frac d n i = (i + 1, true, false, false) := by
  unfold frac
  rw [if_pos ⟨h, h1⟩, if_neg (fun q => by have := h2 q.1; rw [q.2] at this; exact absurd this (by simp))]
/-- What is left behind the exponent's sign. -/
def tailx (d : Nat → Int) (n : Nat) (f : Bool) (j : Nat) : Ans := if j < n ∧ dig (d j) = true then (skd d n j, f, true, true) else (j, f, true, false)
theorem expo_none {d : Nat → Int} {n : Nat} {f : Bool} {i : Nat} (h : ¬ (i < n ∧ (d i = 101 ∨ d i = 69))) : expo d n f i = (i, f, false, true) := by unfold expo; rw [if_neg h]
theorem expo_sign {d : Nat → Int} {n : Nat} {f : Bool} {i : Nat} (h : i < n) (h1 : d i = 101 ∨ d i = 69) (h2 : i + 1 < n) (h3 : d (i + 1) = 43 ∨ d (i + 1) = 45) : expo d n f i = tailx d n f (i + 2) := by
  have e : signed d n (i + 1) = i + 1 + 1 := by unfold signed; rw [if_pos ⟨h2, h3⟩]
  unfold expo tailx; rw [if_pos ⟨h, h1⟩, e]
theorem expo_bare {d : Nat → Int} {n : Nat} {f : Bool} {i : Nat} (h : i < n) (h1 : d i = 101 ∨ d i = 69) (h2 : ¬ (i + 1 < n ∧ (d (i + 1) = 43 ∨ d (i + 1) = 45))) : expo d n f i = tailx d n f (i + 1) := by
  have e : signed d n (i + 1) = i + 1 := by unfold signed; rw [if_neg h2]
  unfold expo tailx; rw [if_pos ⟨h, h1⟩, e]
theorem tailx_yes {d : Nat → Int} {n : Nat} {f : Bool} {j : Nat} (h : j < n) (h1 : dig (d j) = true) : tailx d n f j = (skd d n j, f, true, true) := by unfold tailx; rw [if_pos ⟨h, h1⟩]
theorem tailx_no {d : Nat → Int} {n : Nat} {f : Bool} {j : Nat} (h : j < n → dig (d j) = false) : tailx d n f j = (j, f, true, false) := by
  unfold tailx
  rw [if_neg (fun q => by have := h q.1; rw [q.2] at this; exact absurd this (by simp))]

/-! ### numberAutomaton -/
def step (s c : Int) : Int :=
  if s = 0 ∨ s = 1 then (if s = 0 ∧ c = 45 then 1 else if c = 48 then 2 else if dig c = true then 3 else -1)
  else if s = 2 ∨ s = 3 then (if s = 3 ∧ dig c = true then 3 else if c = 46 then 4 else if c = 101 ∨ c = 69 then 6 else -1)
  else if s = 4 ∨ s = 5 then (if dig c = true then 5 else if s = 5 ∧ (c = 101 ∨ c = 69) then 6 else -1)
  else if s = 6 then (if c = 43 ∨ c = 45 then 7 else if dig c = true then 8 else -1)
  else if s = 7 ∨ s = 8 then (if dig c = true then 8 else -1)
  else -1
def acc (s : Int) : Bool := decide (s = 2) || (decide (s = 3) || (decide (s = 5) || decide (s = 8)))
def runF (d : Nat → Int) (n : Nat) : Nat → Int → Bool → Bool → Nat → Ans
  | 0, s, f, x, p => (p, f, x, acc s)
  | g + 1, s, f, x, p => if p < n ∧ 0 ≤ step s (d p) then runF d n g (step s (d p)) (f || decide (step s (d p) = 4)) (x || decide (step s (d p) = 6)) (p + 1) else (p, f, x, acc s)
def run (d : Nat → Int) (n : Nat) (s : Int) (f x : Bool) (p : Nat) : Ans := runF d n (n - p) s f x p

theorem step_bd (s c : Int) : step s c = -1 ∨ (0 ≤ step s c ∧ step s c ≤ 8) := by
  unfold step
  by_cases hd : dig c = true <;> simp only [hd] <;> repeat' split
  all_goals omega
theorem run_stop {d : Nat → Int} {n : Nat} {s : Int} {f x : Bool} {p : Nat} (h : ¬ (p < n ∧ 0 ≤ step s (d p))) : run d n s f x p = (p, f, x, acc s) := by
  unfold run
  cases hf : n - p with
  | zero => rfl
  | succ g => rw [runF, if_neg h]
theorem run_go {d : Nat → Int} {n : Nat} {s : Int} {f x : Bool} {p : Nat} (h : p < n) (hs : 0 ≤ step s (d p)) :
    run d n s f x p = run d n (step s (d p)) (f || decide (step s (d p) = 4)) (x || decide (step s (d p) = 6)) (p + 1) := by
  unfold run
  obtain ⟨g, hf⟩ : ∃ g, n - p = g + 1 := ⟨n - p - 1, by omega⟩
  rw [hf, runF, if_pos ⟨h, hs⟩, show n - (p + 1) = g by omega]
theorem run_to {d : Nat → Int} {n : Nat} {s : Int} {f x : Bool} {p : Nat} (t : Int) (h : p < n) (hs : step s (d p) = t) (ht : 0 ≤ t) :
    run d n s f x p = run d n t (f || decide (t = 4)) (x || decide (t = 6)) (p + 1) := by
  rw [run_go h (by omega), hs]
/-- In a state of digits the automaton skips the digits. -/
theorem run_digits {d : Nat → Int} {n : Nat} (s : Int) (hs : s = 3 ∨ s = 5 ∨ s = 8) {f x : Bool} (p : Nat) : run d n s f x p = run d n s f x (skd d n p) := by
  refine skd_ind (d := d) (n := n) (motive := fun p => run d n s f x p = run d n s f x (skd d n p)) ?_ ?_ p
  · intro i h; rw [skd_stop h]
  · intro i h1 h2 ih
    have e : step s (d i) = s := by rcases hs with rfl | rfl | rfl <;> simp [step, h2]
    rw [skd_hit h1 h2, ← ih, run_to s h1 e (by omega)]
    rcases hs with rfl | rfl | rfl <;> simp

theorem run_signed (d : Nat → Int) (n : Nat) (f x : Bool) (j : Nat) :
    run d n 6 f x j = if signed d n j < n ∧ dig (d (signed d n j)) = true then (skd d n (signed d n j), f, x, true) else (signed d n j, f, x, false) := by
  by_cases h : j < n ∧ (d j = 43 ∨ d j = 45)
  · have e : signed d n j = j + 1 := by unfold signed; rw [if_pos h]
    rw [e, run_to 7 h.1 (by simp [step, h.2]) (by omega)]
    by_cases h2 : j + 1 < n ∧ dig (d (j + 1)) = true
    · rw [if_pos h2, run_to 8 h2.1 (by simp [step, h2.2]) (by omega), run_digits 8 (by omega), run_stop, skd_hit h2.1 h2.2]
      · simp [acc]
      · intro ⟨a, b⟩
        refine skd_end d n (j + 1 + 1) ⟨a, ?_⟩
        simp only [step] at b
        by_cases q : dig (d (skd d n (j + 1 + 1))) = true
        · exact q
        · simp [q] at b
    · rw [if_neg h2, run_stop]
      · simp [acc]
      · intro ⟨a, b⟩
        refine h2 ⟨a, ?_⟩
        by_cases q : dig (d (j + 1)) = true
        · exact q
        · simp [step, q] at b
  · have e : signed d n j = j := by unfold signed; rw [if_neg h]
    rw [e]
    by_cases h2 : j < n ∧ dig (d j) = true
    · have hq : ¬ (d j = 43 ∨ d j = 45) := fun q => h ⟨h2.1, q⟩
      rw [if_pos h2, run_to 8 h2.1 (by simp [step, h2.2, hq]) (by omega), run_digits 8 (by omega), run_stop, skd_hit h2.1 h2.2]
      · simp [acc]
      · intro ⟨a, b⟩
        refine skd_end d n (j + 1) ⟨a, ?_⟩
        by_cases q : dig (d (skd d n (j + 1))) = true
        · exact q
        · simp [step, q] at b
    · rw [if_neg h2, run_stop]
      · simp [acc]
      · intro ⟨a, b⟩
        have hq : ¬ (d j = 43 ∨ d j = 45) := fun q => h ⟨a, q⟩
        refine h2 ⟨a, ?_⟩
        by_cases q : dig (d j) = true
        · exact q
        · simp [step, q, hq] at b

/-- Behind the whole part or the fraction, where no digit and no point is to come. -/
theorem run_expo (d : Nat → Int) (n : Nat) (s : Int) (f : Bool) (i : Nat) (hs : s = 2 ∨ s = 3 ∨ s = 5) (hd : s ≠ 2 → ¬ (i < n ∧ dig (d i) = true)) (hp : s ≠ 5 → ¬ (i < n ∧ d i = 46)) :
    run d n s f false i = expo d n f i := by
  unfold expo
  by_cases h : i < n ∧ (d i = 101 ∨ d i = 69)
  · rw [if_pos h]
    have hdg : dig (d i) = false := by rw [dig_not]; omega
    have h46 : d i ≠ 46 := by omega
    have e : step s (d i) = 6 := by rcases hs with rfl | rfl | rfl <;> simp [step, hdg, h.2, h46]
    rw [run_to 6 h.1 e (by omega), run_signed]
    simp
  · rw [if_neg h, run_stop]
    · rcases hs with rfl | rfl | rfl <;> simp [acc]
    · intro ⟨a, b⟩
      have h1 : ¬ (d i = 101 ∨ d i = 69) := fun q => h ⟨a, q⟩
      rcases hs with rfl | rfl | rfl
      · have h2 : ¬ d i = 46 := fun q => hp (by omega) ⟨a, q⟩
        simp [step, h1, h2] at b
      · have h2 : ¬ d i = 46 := fun q => hp (by omega) ⟨a, q⟩
        have h3 : ¬ dig (d i) = true := fun q => hd (by omega) ⟨a, q⟩
        simp [step, h1, h2, h3] at b
      · have h3 : ¬ dig (d i) = true := fun q => hd (by omega) ⟨a, q⟩
        simp [step, h1, h3] at b

theorem run_frac (d : Nat → Int) (n : Nat) (s : Int) (i : Nat) (hs : s = 2 ∨ s = 3) (hd : s ≠ 2 → ¬ (i < n ∧ dig (d i) = true)) :
    run d n s false false i = frac d n i := by
  unfold frac
  by_cases h : i < n ∧ d i = 46
  · rw [if_pos h]
    have e : step s (d i) = 4 := by rcases hs with rfl | rfl <;> simp [step, h.2, dig]
    rw [run_to 4 h.1 e (by omega)]
    by_cases h2 : i + 1 < n ∧ dig (d (i + 1)) = true
    · rw [if_pos h2, run_to 5 h2.1 (by simp [step, h2.2]) (by omega), run_digits 5 (by omega), skd_hit h2.1 h2.2]
      simp
      exact run_expo d n 5 true _ (by omega) (fun _ => skd_end d n _) (fun q => absurd rfl q)
    · rw [if_neg h2, run_stop]
      · simp [acc]
      · intro ⟨a, b⟩
        refine h2 ⟨a, ?_⟩
        by_cases q : dig (d (i + 1)) = true
        · exact q
        · simp [step, q] at b
  · rw [if_neg h]
    exact run_expo d n s false i (by omega) hd (fun _ => h)

theorem run_whole (d : Nat → Int) (n : Nat) (s : Int) (i : Nat) (hs : s = 0 ∨ s = 1) (hm : s = 0 → d i ≠ 45) :
    run d n s false false i = if i < n ∧ d i = 48 then frac d n (i + 1) else if i < n ∧ dig (d i) = true then frac d n (skd d n i) else (i, false, false, false) := by
  by_cases h : i < n ∧ d i = 48
  · rw [if_pos h, run_to 2 h.1 (by rcases hs with rfl | rfl <;> simp [step, h.2]) (by omega)]
    simp
    exact run_frac d n 2 _ (by omega) (fun q => absurd rfl q)
  · rw [if_neg h]
    by_cases h2 : i < n ∧ dig (d i) = true
    · have h48 : d i ≠ 48 := fun q => h ⟨h2.1, q⟩
      rw [if_pos h2, run_to 3 h2.1 (by rcases hs with rfl | rfl <;> simp_all [step]) (by omega), run_digits 3 (by omega), skd_hit h2.1 h2.2]
      simp
      exact run_frac d n 3 _ (by omega) (fun _ => skd_end d n _)
    · rw [if_neg h2, run_stop]
      · rcases hs with rfl | rfl <;> simp [acc]
      · intro ⟨a, b⟩
        have h48 : d i ≠ 48 := fun q => h ⟨a, q⟩
        have h3 : ¬ dig (d i) = true := fun q => h2 ⟨a, q⟩
        rcases hs with rfl | rfl
        · simp [step, h48, h3, hm rfl] at b
        · simp [step, h48, h3] at b

/-- THE LAW: the automaton answers as scanNumber does. -/
theorem run_scan (d : Nat → Int) (n s : Nat) (h : s < n) : run d n 0 false false s = scan d n s := by
  unfold scan
  by_cases hm : d s = 45
  · have e : minus d s = s + 1 := by unfold minus; rw [if_pos hm]
    rw [e, run_to 1 h (by simp [step, hm]) (by omega)]
    simp
    exact run_whole d n 1 (s + 1) (by omega) (fun q => by omega)
  · have e : minus d s = s := by unfold minus; rw [if_neg hm]
    rw [e]
    exact run_whole d n 0 s (by omega) (fun _ => hm)

/-! ### scanNumber reads only its own bytes -/
theorem signed_ge (d : Nat → Int) (n j : Nat) : j ≤ signed d n j := by unfold signed; split <;> omega
theorem signed_le (d : Nat → Int) (n j : Nat) (h : j ≤ n) : signed d n j ≤ n := by unfold signed; split <;> omega
theorem expo_bounds (d : Nat → Int) (n : Nat) (f : Bool) (i : Nat) (h : i ≤ n) : i ≤ (expo d n f i).1 ∧ (expo d n f i).1 ≤ n := by
  unfold expo
  by_cases h1 : i < n ∧ (d i = 101 ∨ d i = 69)
  · rw [if_pos h1]
    have a := signed_ge d n (i + 1)
    have b := signed_le d n (i + 1) (by omega)
    have c := skd_ge d n (signed d n (i + 1))
    have e := skd_le d n (signed d n (i + 1)) b
    split <;> simp <;> omega
  · rw [if_neg h1]; simp; exact h
theorem frac_bounds (d : Nat → Int) (n i : Nat) (h : i ≤ n) : i ≤ (frac d n i).1 ∧ (frac d n i).1 ≤ n := by
  unfold frac
  by_cases h1 : i < n ∧ d i = 46
  · rw [if_pos h1]
    split
    · have a := skd_ge d n (i + 1)
      have b := skd_le d n (i + 1) (by omega)
      have c := expo_bounds d n true (skd d n (i + 1)) b
      omega
    · simp; omega
  · rw [if_neg h1]; exact expo_bounds d n false i h
theorem minus_ge (d : Nat → Int) (s : Nat) : s ≤ minus d s := by unfold minus; split <;> omega
theorem minus_le (d : Nat → Int) (n s : Nat) (h : s < n) : minus d s ≤ n := by unfold minus; split <;> omega
theorem scan_bounds (d : Nat → Int) (n s : Nat) (h : s < n) : s ≤ (scan d n s).1 ∧ (scan d n s).1 ≤ n := by
  have m1 := minus_ge d s
  have m2 := minus_le d n s h
  unfold scan
  split
  · have := frac_bounds d n (minus d s + 1) (by omega); omega
  · split
    · have a := skd_ge d n (minus d s)
      have b := skd_le d n (minus d s) (by omega)
      have := frac_bounds d n (skd d n (minus d s)) b; omega
    · simp; omega
/-- A first byte that is neither '-' nor a digit is refused. -/
theorem scan_refused (d : Nat → Int) (n s : Nat) (h1 : d s ≠ 45) (h2 : dig (d s) = false) : scan d n s = (s, false, false, false) := by
  have e : minus d s = s := by unfold minus; rw [if_neg h1]
  have h48 : d s ≠ 48 := by rw [dig_not] at h2; omega
  unfold scan
  rw [e, if_neg (fun q => h48 q.2), if_neg (fun q => by rw [h2] at q; exact absurd q.2 (by simp))]
/-- A first '-' or digit is consumed. -/
theorem scan_moves (d : Nat → Int) (n s : Nat) (h : s < n) (hc : d s = 45 ∨ dig (d s) = true) : s < (scan d n s).1 := by
  have m2 := minus_le d n s h
  have m1 := minus_ge d s
  unfold scan
  split
  · have := frac_bounds d n (minus d s + 1) (by omega); omega
  · split
    · rename_i hq
      have a := skd_gt hq.1 hq.2
      have b := skd_le d n (minus d s) (by omega)
      have := frac_bounds d n (skd d n (minus d s)) b; omega
    · rename_i _ hq
      by_cases hm : d s = 45
      · have e : minus d s = s + 1 := by unfold minus; rw [if_pos hm]
        simp; omega
      · have e : minus d s = s := by unfold minus; rw [if_neg hm]
        rw [e] at hq
        exact absurd ⟨h, hc.resolve_left hm⟩ hq

/-- An answer moved by s. -/
def moved (s : Nat) (a : Ans) : Ans := (a.1 + s, a.2)
theorem signed_shift (d : Nat → Int) (n s j : Nat) (h : s ≤ n) : signed (fun k => d (s + k)) (n - s) j + s = signed d n (j + s) := by
  unfold signed
  simp only [Nat.add_comm s j]
  by_cases q : j + s < n ∧ (d (j + s) = 43 ∨ d (j + s) = 45)
  · rw [if_pos q, if_pos ⟨by omega, q.2⟩]; omega
  · rw [if_neg q, if_neg (fun r => q ⟨by omega, r.2⟩)]
theorem expo_shift (d : Nat → Int) (n s : Nat) (f : Bool) (i : Nat) (h : s ≤ n) : moved s (expo (fun k => d (s + k)) (n - s) f i) = expo d n f (i + s) := by
  have e0 : s + i = i + s := Nat.add_comm _ _
  have e1 := signed_shift d n s (i + 1) h
  have e2 := skd_shift d n s (signed (fun k => d (s + k)) (n - s) (i + 1)) h
  have e3 : i + 1 + s = i + s + 1 := by omega
  rw [e3] at e1
  have e4 : s + signed (fun k => d (s + k)) (n - s) (i + 1) = signed d n (i + s + 1) := by omega
  rw [e1] at e2
  unfold expo
  simp only [e0, e4]
  by_cases q : i + s < n ∧ (d (i + s) = 101 ∨ d (i + s) = 69)
  · rw [if_pos q, if_pos ⟨by omega, q.2⟩]
    by_cases r : signed d n (i + s + 1) < n ∧ dig (d (signed d n (i + s + 1))) = true
    · rw [if_pos r, if_pos ⟨by omega, r.2⟩]; simp [moved, e2]
    · rw [if_neg r, if_neg (fun t => r ⟨by omega, t.2⟩)]; simp [moved, e1]
  · rw [if_neg q, if_neg (fun t => q ⟨by omega, t.2⟩)]; simp [moved]
theorem frac_shift (d : Nat → Int) (n s i : Nat) (h : s ≤ n) : moved s (frac (fun k => d (s + k)) (n - s) i) = frac d n (i + s) := by
  have e0 : s + i = i + s := Nat.add_comm _ _
  have e1 : s + (i + 1) = i + s + 1 := by omega
  have e2 := skd_shift d n s (i + 1) h
  have e3 : i + 1 + s = i + s + 1 := by omega
  rw [e3] at e2
  unfold frac
  simp only [e0, e1]
  by_cases q : i + s < n ∧ d (i + s) = 46
  · rw [if_pos q, if_pos ⟨by omega, q.2⟩]
    by_cases r : i + s + 1 < n ∧ dig (d (i + s + 1)) = true
    · rw [if_pos r, if_pos ⟨by omega, r.2⟩, expo_shift d n s true _ h, e2]
    · rw [if_neg r, if_neg (fun t => r ⟨by omega, t.2⟩)]; simp [moved]; omega
  · rw [if_neg q, if_neg (fun t => q ⟨by omega, t.2⟩), expo_shift d n s false _ h]
/-- THE LAW, its shift: scanning the rest from 0 is scanning the whole from s, moved. -/
theorem scan_shift (d : Nat → Int) (n s : Nat) (h : s < n) : moved s (scan (fun k => d (s + k)) (n - s) 0) = scan d n s := by
  have e0 : minus (fun k => d (s + k)) 0 + s = minus d s := by
    unfold minus; simp only [Nat.add_zero]; split <;> omega
  have e1 : s + minus (fun k => d (s + k)) 0 = minus d s := by omega
  have e2 := skd_shift d n s (minus (fun k => d (s + k)) 0) (by omega)
  rw [e0] at e2
  unfold scan
  simp only [e1]
  by_cases q : minus d s < n ∧ d (minus d s) = 48
  · rw [if_pos q, if_pos ⟨by omega, q.2⟩, frac_shift d n s _ (by omega)]
    congr 1; omega
  · rw [if_neg q, if_neg (fun t => q ⟨by omega, t.2⟩)]
    by_cases r : minus d s < n ∧ dig (d (minus d s)) = true
    · rw [if_pos r, if_pos ⟨by omega, r.2⟩, frac_shift d n s _ (by omega), e2]
    · rw [if_neg r, if_neg (fun t => r ⟨by omega, t.2⟩)]; simp [moved, e0]

theorem expo_cut (d : Nat → Int) (n m : Nat) (f : Bool) (i : Nat) (hi : i ≤ n) (h1 : (expo d n f i).1 = m) (h2 : (expo d n f i).2.2.2 = true) : expo d m f i = expo d n f i := by
  have hb := expo_bounds d n f i hi
  revert h1 h2 hb
  unfold expo
  by_cases q : i < n ∧ (d i = 101 ∨ d i = 69)
  · rw [if_pos q]
    by_cases r : signed d n (i + 1) < n ∧ dig (d (signed d n (i + 1))) = true
    · rw [if_pos r]
      intro h1 _ hb
      simp only at h1 hb
      have g := skd_gt r.1 r.2
      have sg := signed_ge d n (i + 1)
      have e : signed d m (i + 1) = signed d n (i + 1) := by
        by_cases t : i + 1 < n ∧ (d (i + 1) = 43 ∨ d (i + 1) = 45)
        · have en : signed d n (i + 1) = i + 1 + 1 := by unfold signed; rw [if_pos t]
          have em : signed d m (i + 1) = i + 1 + 1 := by unfold signed; rw [if_pos ⟨by omega, t.2⟩]
          rw [en, em]
        · have en : signed d n (i + 1) = i + 1 := by unfold signed; rw [if_neg t]
          have em : signed d m (i + 1) = i + 1 := by unfold signed; rw [if_neg (fun u => t ⟨by omega, u.2⟩)]
          rw [en, em]
      rw [if_pos ⟨by omega, q.2⟩, e, if_pos ⟨by omega, r.2⟩, skd_cut d n m _ (by omega) (by omega)]
    · rw [if_neg r]; intro _ h2; simp at h2
  · rw [if_neg q]
    intro h1 _ _
    simp only at h1
    rw [if_neg (fun t => by omega)]
theorem frac_cut (d : Nat → Int) (n m i : Nat) (hi : i ≤ n) (h1 : (frac d n i).1 = m) (h2 : (frac d n i).2.2.2 = true) : frac d m i = frac d n i := by
  have hb := frac_bounds d n i hi
  revert h1 h2 hb
  unfold frac
  by_cases q : i < n ∧ d i = 46
  · rw [if_pos q]
    by_cases r : i + 1 < n ∧ dig (d (i + 1)) = true
    · rw [if_pos r]
      intro h1 h2 hb
      have l := skd_le d n (i + 1) (by omega)
      have g := skd_gt r.1 r.2
      have b := expo_bounds d n true (skd d n (i + 1)) l
      rw [if_pos ⟨by omega, q.2⟩, if_pos ⟨by omega, r.2⟩, skd_cut d n m (i + 1) (by omega) (by omega), expo_cut d n m true _ l h1 h2]
    · rw [if_neg r]; intro _ h2; simp at h2
  · rw [if_neg q]
    intro h1 h2 hb
    rw [if_neg (fun t => q ⟨by omega, t.2⟩), expo_cut d n m false _ hi h1 h2]
/-- THE LAW, its cut: an accepted number is read the same where the row ends behind it. -/
theorem scan_cut (d : Nat → Int) (n s : Nat) (h : s < n) (h2 : (scan d n s).2.2.2 = true) : scan d (scan d n s).1 s = scan d n s := by
  have hb := scan_bounds d n s h
  obtain ⟨m, hm⟩ : ∃ m, m = (scan d n s).1 := ⟨_, rfl⟩
  rw [← hm] at hb ⊢
  have h1 := hm.symm
  clear hm
  revert h1 h2 hb
  have ml := minus_le d n s h
  unfold scan
  by_cases q : minus d s < n ∧ d (minus d s) = 48
  · rw [if_pos q]
    intro h2 hb h1
    have b := frac_bounds d n (minus d s + 1) (by omega)
    rw [if_pos ⟨by omega, q.2⟩, frac_cut d n m _ (by omega) h1 h2]
  · rw [if_neg q]
    by_cases r : minus d s < n ∧ dig (d (minus d s)) = true
    · rw [if_pos r]
      intro h2 hb h1
      have l := skd_le d n (minus d s) (by omega)
      have g := skd_gt r.1 r.2
      have b := frac_bounds d n (skd d n (minus d s)) l
      rw [if_neg (fun t => q ⟨by omega, t.2⟩), if_pos ⟨by omega, r.2⟩, skd_cut d n m _ (by omega) (by omega), frac_cut d n m _ l h1 h2]
    · rw [if_neg r]; intro h2; simp at h2

end Go.Proofs.Qxb6605498a.Plain

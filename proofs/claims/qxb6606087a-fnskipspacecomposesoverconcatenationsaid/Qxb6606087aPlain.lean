/-
  THE PLAIN MATHEMATICS OF THIS SEAT: no Go in sight. Bytes are given by an index function 'd : Nat -> Int', 'n' of them.
-/
namespace Go.Proofs.Qxb6606087a.Plain

/-- JSON's white space. -/
def spc (c : Int) : Bool := decide (c = 32) || (decide (c = 9) || (decide (c = 10) || decide (c = 13)))
theorem spc_iff (c : Int) : spc c = true ↔ c = 32 ∨ c = 9 ∨ c = 10 ∨ c = 13 := by simp [spc]
theorem spc_not (c : Int) : spc c = false ↔ c ≠ 32 ∧ c ≠ 9 ∧ c ≠ 10 ∧ c ≠ 13 := by simp [spc]
theorem spc_beq (c : Int) : (c == 32 || c == 9 || c == 10 || c == 13) = spc c := by rw [Bool.eq_iff_iff]; simp [spc, or_assoc]
theorem spc_32 {c : Int} (h : (c == 32) = true) : spc c = true := by simp at h; simp [spc, h]
theorem spc_9 {c : Int} (h : (c == 9) = true) : spc c = true := by simp at h; simp [spc, h]
theorem spc_10 {c : Int} (h : (c == 10) = true) : spc c = true := by simp at h; simp [spc, h]
theorem spc_13 {c : Int} (h : (c == 13) = true) : spc c = true := by simp at h; simp [spc, h]
theorem spc_none {c : Int} (h1 : (c == 32) = false) (h2 : (c == 9) = false) (h3 : (c == 10) = false) (h4 : (c == 13) = false) : spc c = false := by
  rw [← spc_beq, h1, h2, h3, h4]; rfl

/-- skipSpace. -/
def skF (d : Nat → Int) (n : Nat) : Nat → Nat → Nat
  | 0, i => i
  | f + 1, i => if i < n ∧ spc (d i) = true then skF d n f (i + 1) else i
def sk (d : Nat → Int) (n i : Nat) : Nat := skF d n (n - i) i

theorem sk_stop {d : Nat → Int} {n i : Nat} (h : ¬ (i < n ∧ spc (d i) = true)) : sk d n i = i := by
  unfold sk
  cases hf : n - i with
  | zero => rfl
  | succ f => rw [skF, if_neg h]
theorem sk_hit {d : Nat → Int} {n i : Nat} (h : i < n) (hd : spc (d i) = true) : sk d n i = sk d n (i + 1) := by
  unfold sk
  obtain ⟨f, hf⟩ : ∃ f, n - i = f + 1 := ⟨n - i - 1, by omega⟩
  rw [hf, skF, if_pos ⟨h, hd⟩, show n - (i + 1) = f by omega]
/-- Induction over the space that is skipped. -/
theorem sk_ind {d : Nat → Int} {n : Nat} {motive : Nat → Prop} (stop : ∀ i, ¬ (i < n ∧ spc (d i) = true) → motive i)
    (hit : ∀ i, i < n → spc (d i) = true → motive (i + 1) → motive i) (i : Nat) : motive i := by
  obtain ⟨f, hf⟩ : ∃ f, f = n - i := ⟨_, rfl⟩
  induction f generalizing i with
  | zero => exact stop i (fun h => by have := h.1; omega)
  | succ f ih =>
    by_cases h : i < n ∧ spc (d i) = true
    · exact hit i h.1 h.2 (ih (i + 1) (by omega))
    · exact stop i h
theorem sk_ge (d : Nat → Int) (n i : Nat) : i ≤ sk d n i := by
  refine sk_ind (d := d) (n := n) (motive := fun i => i ≤ sk d n i) ?_ ?_ i
  · intro i h; rw [sk_stop h]; exact Nat.le_refl _
  · intro i h1 h2 ih; rw [sk_hit h1 h2]; omega
theorem sk_le (d : Nat → Int) (n i : Nat) : i ≤ n → sk d n i ≤ n := by
  refine sk_ind (d := d) (n := n) (motive := fun i => i ≤ n → sk d n i ≤ n) ?_ ?_ i
  · intro i h hi; rw [sk_stop h]; exact hi
  · intro i h1 h2 ih hi; rw [sk_hit h1 h2]; exact ih (by omega)
theorem sk_end (d : Nat → Int) (n i : Nat) : ¬ (sk d n i < n ∧ spc (d (sk d n i)) = true) := by
  refine sk_ind (d := d) (n := n) (motive := fun i => ¬ (sk d n i < n ∧ spc (d (sk d n i)) = true)) ?_ ?_ i
  · intro i h; rw [sk_stop h]; exact h
  · intro i h1 h2 ih; rw [sk_hit h1 h2]; exact ih
/-- Every byte on the way is space. -/
theorem sk_all (d : Nat → Int) (n k : Nat) (i : Nat) : i ≤ k → k < sk d n i → spc (d k) = true := by
  refine sk_ind (d := d) (n := n) (motive := fun i => i ≤ k → k < sk d n i → spc (d k) = true) ?_ ?_ i
  · intro i h h1 h2; rw [sk_stop h] at h2; omega
  · intro i h1 h2 ih h3 h4
    rw [sk_hit h1 h2] at h4
    by_cases e : k = i
    · rw [e]; exact h2
    · exact ih (by omega) h4
/-- From wherever on the way, the same end. -/
theorem sk_from (d : Nat → Int) (n j : Nat) (i : Nat) : i ≤ j → j ≤ sk d n i → sk d n j = sk d n i := by
  refine sk_ind (d := d) (n := n) (motive := fun i => i ≤ j → j ≤ sk d n i → sk d n j = sk d n i) ?_ ?_ i
  · intro i h h1 h2
    rw [sk_stop h] at h2
    rw [show j = i by omega]
  · intro i h1 h2 ih h3 h4
    by_cases e : j = i
    · rw [e]
    · rw [sk_hit h1 h2] at h4 ⊢
      exact ih (by omega) h4
/-- Skipping in a longer row that holds 'd' at place m: where it stops inside, the same place; else on from its end. -/
theorem sk_in (D d : Nat → Int) (N n m : Nat) (hN : m + n ≤ N) (hD : ∀ k, k < n → D (m + k) = d k) (i : Nat) : i ≤ n →
    sk D N (m + i) = if sk d n i < n then m + sk d n i else sk D N (m + n) := by
  refine sk_ind (d := d) (n := n) (motive := fun i => i ≤ n → sk D N (m + i) = if sk d n i < n then m + sk d n i else sk D N (m + n)) ?_ ?_ i
  · intro i h hi
    rw [sk_stop h]
    by_cases q : i < n
    · rw [if_pos q]
      refine sk_stop ?_
      intro r
      rw [hD i q] at r
      exact h ⟨q, r.2⟩
    · rw [if_neg q, show i = n by omega]
  · intro i h1 h2 ih hi
    rw [sk_hit h1 h2, sk_hit (d := D) (i := m + i) (by omega) (by rw [hD i h1]; exact h2)]
    exact ih (by omega)
/-- .. at a row's own end. -/
theorem sk_tail (D d : Nat → Int) (N n m : Nat) (hN : m + n = N) (hD : ∀ k, k < n → D (m + k) = d k) (i : Nat) : i ≤ n → sk D N (m + i) = m + sk d n i := by
  refine sk_ind (d := d) (n := n) (motive := fun i => i ≤ n → sk D N (m + i) = m + sk d n i) ?_ ?_ i
  · intro i h hi
    rw [sk_stop h]
    refine sk_stop ?_
    intro r
    have q : i < n := by omega
    rw [hD i q] at r
    exact h ⟨q, r.2⟩
  · intro i h1 h2 ih hi
    rw [sk_hit h1 h2, sk_hit (d := D) (i := m + i) (by omega) (by rw [hD i h1]; exact h2)]
    exact ih (by omega)
/-- THE PLAIN LAW OF THE CONCATENATION p + b + s. -/
theorem sk_concat (D b s : Nat → Int) (np nb ns : Nat) (hb : ∀ k, k < nb → D (np + k) = b k) (hs : ∀ k, k < ns → D (np + nb + k) = s k) (i : Nat) (hi : i ≤ nb) :
    sk D (np + nb + ns) (np + i) = if nb ≤ sk b nb i then np + nb + sk s ns 0 else np + sk b nb i := by
  rw [sk_in D b (np + nb + ns) nb np (by omega) hb i hi]
  by_cases q : sk b nb i < nb
  · rw [if_pos q, if_neg (by omega)]
  · rw [if_neg q, if_pos (by omega)]
    have := sk_tail D s (np + nb + ns) ns (np + nb) rfl hs 0 (Nat.zero_le _)
    simpa using this
end Go.Proofs.Qxb6606087a.Plain

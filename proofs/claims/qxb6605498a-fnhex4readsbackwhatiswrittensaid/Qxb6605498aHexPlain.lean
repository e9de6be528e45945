/-
  THE PLAIN MATHEMATICS OF THE HEXADECIMAL DIGITS: no Go in sight.
-/
import Derived.Test.Qxb6605498aPlain
namespace Go.Proofs.Qxb6605498a.Plain

/-- The value of a hexadecimal digit of either case; -1 where it is none. -/
def hexv (c : Int) : Int :=
  if 48 ≤ c ∧ c ≤ 57 then c - 48 else if 97 ≤ c ∧ c ≤ 102 then c - 87 else if 65 ≤ c ∧ c ≤ 70 then c - 55 else -1
theorem hexv_bd (c : Int) : -1 ≤ hexv c ∧ hexv c ≤ 15 := by unfold hexv; repeat' split
                                                            all_goals omega
/-- The table of digits. -/
def tbl (k : Nat) : Int := [48, 49, 50, 51, 52, 53, 54, 55, 56, 57, 97, 98, 99, 100, 101, 102, 65, 66, 67, 68, 69, 70].getD k 0
theorem tbl_str : ∀ k : Fin 22, ((((⟨#[48, 49, 50, 51, 52, 53, 54, 55, 56, 57, 97, 98, 99, 100, 101, 102, 65, 66, 67, 68, 69, 70]⟩ : ByteArray)[k.val]'(k.isLt)).toNat : Nat) : Int) = tbl k.val := by decide +kernel
theorem tbl_hex : ∀ k : Fin 22, hexv (tbl k.val) = if k.val < 16 then (k.val : Int) else (k.val : Int) - 6 := by decide +kernel
theorem tbl_lo : ∀ k : Fin 10, tbl k.val = 48 + (k.val : Int) := by decide +kernel
theorem tbl_mid : ∀ k : Fin 6, tbl (10 + k.val) = 97 + (k.val : Int) := by decide +kernel
theorem tbl_hi : ∀ k : Fin 6, tbl (16 + k.val) = 65 + (k.val : Int) := by decide +kernel
theorem hexv_lo {c : Int} {k : Nat} (hk : k < 22) (h : tbl k = c) (h16 : k < 16) : hexv c = k := by
  have := tbl_hex ⟨k, hk⟩
  simp only [h] at this
  rw [this, if_pos h16]
theorem hexv_hi {c : Int} {k : Nat} (hk : k < 22) (h : tbl k = c) (h16 : ¬ k < 16) : hexv c = k - 6 := by
  have := tbl_hex ⟨k, hk⟩
  simp only [h] at this
  rw [this, if_neg h16]
theorem hexv_none {c : Int} (h : ∀ j, j < 22 → tbl j ≠ c) : hexv c = -1 := by
  unfold hexv
  by_cases h1 : 48 ≤ c ∧ c ≤ 57
  · have := tbl_lo ⟨(c - 48).toNat, by omega⟩
    simp only at this
    exact absurd (this.trans (by omega)) (h (c - 48).toNat (by omega))
  · rw [if_neg h1]
    by_cases h2 : 97 ≤ c ∧ c ≤ 102
    · have := tbl_mid ⟨(c - 97).toNat, by omega⟩
      simp only at this
      exact absurd (this.trans (by omega)) (h (10 + (c - 97).toNat) (by omega))
    · rw [if_neg h2]
      by_cases h3 : 65 ≤ c ∧ c ≤ 70
      · have := tbl_hi ⟨(c - 65).toNat, by omega⟩
        simp only at this
        exact absurd (this.trans (by omega)) (h (16 + (c - 65).toNat) (by omega))
      · rw [if_neg h3]

/-- The number that the first k digits from place i write. -/
def hv (d : Nat → Int) (i : Nat) : Nat → Int
  | 0 => 0
  | k + 1 => hv d i k * 16 + hexv (d (i + k))
/-- hex4. -/
def hex4 (d : Nat → Int) (n i : Nat) : Int × Bool :=
  if i + 4 ≤ n ∧ 0 ≤ hexv (d i) ∧ 0 ≤ hexv (d (i + 1)) ∧ 0 ≤ hexv (d (i + 2)) ∧ 0 ≤ hexv (d (i + 3)) then (hv d i 4, true) else (0, false)
theorem hv4 (d : Nat → Int) (i : Nat) : hv d i 4 = hexv (d i) * 4096 + hexv (d (i + 1)) * 256 + hexv (d (i + 2)) * 16 + hexv (d (i + 3)) := by
  simp only [hv, Nat.add_zero]; omega
theorem hv_bd (d : Nat → Int) (i k : Nat) (hk : k ≤ 4) (h : ∀ j, j < k → 0 ≤ hexv (d (i + j))) : 0 ≤ hv d i k ∧ hv d i k ≤ 65535 ∧ (k ≤ 3 → hv d i k ≤ 4095) := by
  have e : ∀ j, j < 4 → j < k → 0 ≤ hexv (d (i + j)) ∧ hexv (d (i + j)) ≤ 15 := fun j _ h2 => ⟨h j h2, (hexv_bd _).2⟩
  match k, hk with
  | 0, _ => simp [hv]
  | 1, _ => have := e 0 (by omega) (by omega); simp only [hv] at *; omega
  | 2, _ => have := e 0 (by omega) (by omega); have := e 1 (by omega) (by omega); simp only [hv] at *; omega
  | 3, _ => have := e 0 (by omega) (by omega); have := e 1 (by omega) (by omega); have := e 2 (by omega) (by omega); simp only [hv] at *; omega
  | 4, _ => have := e 0 (by omega) (by omega); have := e 1 (by omega) (by omega); have := e 2 (by omega) (by omega); have := e 3 (by omega) (by omega); simp only [hv] at *; omega
theorem hex4_yes {d : Nat → Int} {n i : Nat} (h : i + 4 ≤ n) (hj : ∀ j, j < 4 → 0 ≤ hexv (d (i + j))) : hex4 d n i = (hv d i 4, true) := by
  unfold hex4
  rw [if_pos ⟨h, by simpa using hj 0 (by omega), hj 1 (by omega), hj 2 (by omega), hj 3 (by omega)⟩]
theorem hex4_short {d : Nat → Int} {n i : Nat} (h : ¬ i + 4 ≤ n) : hex4 d n i = (0, false) := by
  unfold hex4; rw [if_neg (fun q => h q.1)]
theorem hex4_bad {d : Nat → Int} {n i k : Nat} (hk : k < 4) (h : ¬ 0 ≤ hexv (d (i + k))) : hex4 d n i = (0, false) := by
  unfold hex4
  rw [if_neg]
  rintro ⟨_, h0, h1, h2, h3⟩
  match k, hk with
  | 0, _ => exact h h0
  | 1, _ => exact h h1
  | 2, _ => exact h h2
  | 3, _ => exact h h3
end Go.Proofs.Qxb6605498a.Plain

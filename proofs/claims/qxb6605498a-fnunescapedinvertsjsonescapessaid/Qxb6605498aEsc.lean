/-
  THE WALKS OF jsonEscapeLetter (17), unescaped (22), ZZunescaped (18), and the plain functions that they compute.
-/
import Derived.Test.Qxb6605498aProg
import Derived.WalkKit
namespace Go.Proofs.Qxb6605498a.Esc
open Go.RowKit

/-! ### The plain side -/
/-- The letter behind the backslash when m is written as a two-byte escape; 0 where there is none. -/
def esc (m : Int) : Int :=
  if m = 34 then 34 else if m = 92 then 92 else if m = 47 then 47 else if m = 8 then 98 else if m = 12 then 102 else if m = 10 then 110 else if m = 13 then 114 else if m = 9 then 116 else 0
/-- The byte that the escape of letter c stands for; 0 where there is none. -/
def une (c : Int) : Int :=
  if c = 34 then c else if c = 92 then c else if c = 47 then c else if c = 98 then 8 else if c = 102 then 12 else if c = 110 then 10 else if c = 114 then 13 else if c = 116 then 9 else 0
/-- 'want' and 'found' behind the first k rounds. -/
def want (c : Int) : Nat → Int
  | 0 => 0
  | k + 1 => if esc k ≠ 0 ∧ esc k = c then (k : Int) else want c k
def found (c : Int) : Nat → Int
  | 0 => 0
  | k + 1 => if esc k ≠ 0 ∧ esc k = c then found c k + 1 else found c k
theorem found_bd (c : Int) (k : Nat) : 0 ≤ found c k ∧ found c k ≤ k := by
  induction k with
  | zero => simp [found]
  | succ k ih => unfold found; split <;> omega
theorem step_hit {c : Int} {k : Nat} (h : ¬ esc k = 0) (h2 : (esc k != 0) = true ∧ (esc k == c) = true) : want c (k + 1) = k ∧ found c (k + 1) = found c k + 1 := by
  have e : esc k ≠ 0 ∧ esc k = c := ⟨h, by simpa using h2.2⟩
  exact ⟨by rw [want, if_pos e], by rw [found, if_pos e]⟩
theorem step_zero {c : Int} {k : Nat} (h : esc k = 0) : want c (k + 1) = want c k ∧ found c (k + 1) = found c k := by
  have e : ¬ (esc k ≠ 0 ∧ esc k = c) := fun q => q.1 h
  exact ⟨by rw [want, if_neg e], by rw [found, if_neg e]⟩
theorem step_miss {c : Int} {k : Nat} (h2 : (esc k != 0) = false ∨ (esc k == c) = false) : want c (k + 1) = want c k ∧ found c (k + 1) = found c k := by
  have e : ¬ (esc k ≠ 0 ∧ esc k = c) := by
    intro q
    rcases h2 with h | h
    · simp at h; exact q.1 h
    · simp at h; exact h q.2
  exact ⟨by rw [want, if_neg e], by rw [found, if_neg e]⟩
theorem all_fin : ∀ c : Fin 256, found (c.val : Int) 256 ≤ 1 ∧ want (c.val : Int) 256 = une (c.val : Int) := by decide +kernel
/-- THE PLAIN LAW. -/
theorem all (c : Int) (h0 : 0 ≤ c) (h1 : c ≤ 255) : found c 256 ≤ 1 ∧ want c 256 = une c := by
  have := all_fin ⟨c.toNat, by omega⟩
  have e : ((c.toNat : Nat) : Int) = c := by omega
  simpa [e] using this

/-! ### The walks -/
theorem ret_u8 {a b : Int} (h : a = b) : Ending.returned (.int .u8 a) = .returned (.int .u8 b) := by rw [h]

theorem esc_any (m : Int) (w : World) : Calls Try.prog 17 #[.int .u8 m] w fun e w' => e = .returned (.int .u8 (esc m)) ∧ w' = w := by
  go_enter Try.func17, Try.ntmps17
  go_wp2
  all_goals (go_ret; refine ⟨ret_u8 ?_, rfl⟩; simp_all [esc])

theorem une_any (c : Int) (w : World) : Calls Try.prog 22 #[.int .u8 c] w fun e w' => e = .returned (.int .u8 (une c)) ∧ w' = w := by
  go_enter Try.func22, Try.ntmps22
  go_wp2
  all_goals (go_ret; refine ⟨ret_u8 ?_, rfl⟩; simp_all [une])

theorem zune_any (c : Int) (w : World) : Calls Try.prog 18 #[.int .u8 c] w fun e w' => e = .returned (.int .u8 (une c)) ∧ w' = w := by
  go_enter Try.func18, Try.ntmps18
  go_wp2_with (go_at_call 22; refine (une_any _ _).mono ?_; rintro e w' ⟨rfl, rfl⟩)
  go_ret
  exact ⟨rfl, rfl⟩

end Go.Proofs.Qxb6605498a.Esc

/-
  THE PLAIN MATHEMATICS OF FOUR DIGITS WRITTEN AND READ BACK: no Go in sight.
-/
import Derived.Test.Qxb6605498aHexPlain
namespace Go.Proofs.Qxb6605498a.Plain

/-- Every byte fits. -/
def Fits (f : Nat → Int) : Prop := ∀ j, 0 ≤ f j ∧ f j ≤ 255
/-- One byte set. -/
def put (f : Nat → Int) (i : Nat) (x : Int) (j : Nat) : Int := if j = i then x else f j
theorem put_fits {f : Nat → Int} (h : Fits f) {i : Nat} {x : Int} (h0 : 0 ≤ x) (h1 : x ≤ 255) : Fits (put f i x) := by
  intro j; unfold put; split
  · exact ⟨h0, h1⟩
  · exact h j
/-- The last m of the four digits of n stand at their places behind 'at'. -/
def Last (f : Nat → Int) (at_ n m : Nat) : Prop := ∀ t, t < 4 → 4 ≤ t + m → hexv (f (at_ + t)) = ((n / 16 ^ (3 - t) % 16 : Nat) : Int)
theorem last_none (f : Nat → Int) (at_ n : Nat) : Last f at_ n 0 := fun t h1 h2 => by omega
theorem last_put {f : Nat → Int} {at_ n m : Nat} (h : Last f at_ n m) (hm : m < 4) {x : Int} (hx : hexv x = ((n / 16 ^ m % 16 : Nat) : Int)) : Last (put f (at_ + (3 - m)) x) at_ n (m + 1) := by
  intro t h1 h2
  unfold put
  by_cases e : t = 3 - m
  · rw [if_pos (by omega), hx, show 3 - t = m by omega]
  · rw [if_neg (by omega)]
    exact h t h1 (by omega)
theorem last_other {f : Nat → Int} {at_ n : Nat} (h : Last f at_ n 4) {i : Nat} (hi : at_ + 4 ≤ i) (x : Int) : Last (put f i x) at_ n 4 := by
  intro t h1 h2
  unfold put
  rw [if_neg (by omega)]
  exact h t h1 h2
/-- THE PLAIN LAW: the four digits read back as n. -/
theorem last_reads {f : Nat → Int} {at_ n N : Nat} (h : Last f at_ n 4) (hn : n ≤ 65535) (hN : at_ + 4 ≤ N) : hex4 f N at_ = ((n : Int), true) := by
  have a0 := h 0 (by omega) (by omega)
  have a1 := h 1 (by omega) (by omega)
  have a2 := h 2 (by omega) (by omega)
  have a3 := h 3 (by omega) (by omega)
  simp only [Nat.add_zero] at a0
  have e0 : n / 16 ^ (3 - 0) = n / 4096 := rfl
  have e1 : n / 16 ^ (3 - 1) = n / 256 := rfl
  have e2 : n / 16 ^ (3 - 2) = n / 16 := rfl
  have e3 : n / 16 ^ (3 - 3) = n / 1 := rfl
  rw [e0] at a0
  rw [e1] at a1
  rw [e2] at a2
  rw [e3] at a3
  unfold hex4
  rw [if_pos ⟨hN, by rw [a0]; omega, by rw [a1]; omega, by rw [a2]; omega, by rw [a3]; omega⟩, hv4, a0, a1, a2, a3]
  refine Prod.ext ?_ rfl
  show _ = (n : Int)
  omega
theorem div_next {n m v : Nat} (h : v = n / 16 ^ m) : v / 16 = n / 16 ^ (m + 1) := by rw [h, Nat.div_div_eq_div_mul, Nat.pow_succ]
theorem dig_of {n m v : Nat} {x : Int} (h : v = n / 16 ^ m) (hx : hexv x = (v : Int) % 16) : hexv x = ((n / 16 ^ m % 16 : Nat) : Int) := by rw [hx, ← h]; omega
/-- hexDigitByte. -/
def dgt (d : Int) (u : Bool) : Int := if d < 10 then 48 + d else if u = true then 55 + d else 87 + d
theorem dgt_hex {d : Int} (u : Bool) (h0 : 0 ≤ d) (h1 : d ≤ 15) : hexv (dgt d u) = d ∧ 0 ≤ dgt d u ∧ dgt d u ≤ 255 := by
  unfold dgt hexv
  cases u <;> simp <;> repeat' split
  all_goals omega
end Go.Proofs.Qxb6605498a.Plain

/-
  ZZscanNumber (9), BY scanNumber's CONTRACT; the bounds on the length (8, 11).
-/
import Derived.Test.Qxb6605498aScan
import Derived.BigQuiet
import Derived.WalkSmall
namespace Go.Proofs.Qxb6605498a
open Go.RowKit Plain

/-- scanNumber at a known answer. -/
theorem scan_at (b off len cap : Nat) (d : Nat → Int) (i : Nat) (iv : Int) (hiv : iv = i) (w : World) (hi : i < len) (hm : len ≤ 1048576) (hb : b < w.heap.size)
    (hc : ∀ k, k < len → w.cell? ⟨b, off + k, none⟩ = some (.int .u8 (d k))) (e0 : Nat) (f x k : Bool) (hA : scan d len i = (e0, f, x, k)) :
    Calls Try.prog 19 #[.slice (some ⟨b, off, none⟩) len cap, .int .i64 iv] w fun e w' => e = .returned (.tuple #[.int .i64 e0, .agg #[.bool f, .bool x], .bool k]) ∧ Below w.heap.size w w' := by
  subst hiv
  have h := scan_any b off len cap d i w hi hm hb hc
  rw [hA] at h
  exact h

set_option maxRecDepth 20000 in
theorem zscan_at (b off len cap : Nat) (d : Nat → Int) (i : Nat) (iv : Int) (hiv : iv = i) (w : World) (hi : i < len) (hm : len ≤ 1048576) (hb : b < w.heap.size)
    (hc : ∀ k, k < len → w.cell? ⟨b, off + k, none⟩ = some (.int .u8 (d k))) (e0 : Nat) (f x k : Bool) (hA : scan d len i = (e0, f, x, k)) :
    Calls Try.prog 9 #[.slice (some ⟨b, off, none⟩) len cap, .int .i64 iv] w fun e w' => e = .returned (.tuple #[.int .i64 e0, .bool f, .bool x, .bool k]) ∧ Below w.heap.size w w' := by
  have h := scan_at b off len cap d i iv hiv w hi hm hb hc e0 f x k hA
  clear hA hc hiv
  go_enter Try.func9, Try.ntmps9
  go_wp2_with (go_at_call 19; refine h.mono ?_; rintro e w1 ⟨rfl, hB⟩)
  go_quiet (fail)
  go_wp2
  refine bodyPost_ret (v := .tuple #[.int .i64 e0, .bool f, .bool x, .bool k]) (by simp [results, Try.results9, go_sem]) rfl ⟨rfl, ?_⟩
  exact below_drewN (hB.alloc hB.size _) _

theorem zz8_yes (a : Option Addr) (len cap : Nat) (i : Int) (w : World) (h : len ≤ 1048576) : Calls Try.prog 8 #[.slice a len cap, .int .i64 i] w fun e w' => e = .returned (.bool true) ∧ w = w' := by
  go_enter Try.func8, Try.ntmps8
  go_wp2
  go_ret
  exact ⟨rfl, rfl⟩
theorem zz8_no (a : Option Addr) (len cap : Nat) (i : Int) (w : World) (h : ¬ len ≤ 1048576) : Calls Try.prog 8 #[.slice a len cap, .int .i64 i] w fun e w' => e = .returned (.bool false) ∧ w = w' := by
  go_enter Try.func8, Try.ntmps8
  go_wp2
  go_ret
  exact ⟨rfl, rfl⟩
theorem zz11_yes (a : Option Addr) (len cap : Nat) (i : Int) (w : World) (h : len ≤ 1048576) : Calls Try.prog 11 #[.slice a len cap, .int .i64 i] w fun e w' => e = .returned (.bool true) ∧ w = w' := by
  go_enter Try.func11, Try.ntmps11
  go_wp2
  go_ret
  exact ⟨rfl, rfl⟩
theorem zz11_no (a : Option Addr) (len cap : Nat) (i : Int) (w : World) (h : ¬ len ≤ 1048576) : Calls Try.prog 11 #[.slice a len cap, .int .i64 i] w fun e w' => e = .returned (.bool false) ∧ w = w' := by
  go_enter Try.func11, Try.ntmps11
  go_wp2
  go_ret
  exact ⟨rfl, rfl⟩
end Go.Proofs.Qxb6605498a

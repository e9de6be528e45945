/-
  THE WALKS OF isDigit (23) AND skipDigits (24).
-/
import Derived.Test.Qxb6605498aProg
import Derived.Test.Qxb6605498aPlain
import Derived.WalkKit
namespace Go.Proofs.Qxb6605498a
open Go.RowKit Plain

theorem ret_bool {a b : Bool} (h : a = b) : Ending.returned (.bool a) = .returned (.bool b) := by rw [h]
theorem ret_i64 {a b : Int} (h : a = b) : Ending.returned (.int .i64 a) = .returned (.int .i64 b) := by rw [h]

theorem digit_any (c : Int) (w : World) : Calls Try.prog 23 #[.int .u8 c] w fun e w' => e = .returned (.bool (dig c)) ∧ w' = w := by
  by_cases h : 48 ≤ c
  · go_enter Try.func23, Try.ntmps23
    go_wp2
    go_ret
    exact ⟨ret_bool (by simp [dig, h]), rfl⟩
  · go_enter Try.func23, Try.ntmps23
    go_wp2
    go_ret
    exact ⟨ret_bool (by simp [dig]; omega), rfl⟩
theorem digit_yes (c : Int) (w : World) (h : dig c = true) : Calls Try.prog 23 #[.int .u8 c] w fun e w' => e = .returned (.bool true) ∧ w' = w := by
  have := digit_any c w; rw [h] at this; exact this
theorem digit_no (c : Int) (w : World) (h : dig c = false) : Calls Try.prog 23 #[.int .u8 c] w fun e w' => e = .returned (.bool false) ∧ w' = w := by
  have := digit_any c w; rw [h] at this; exact this

theorem skip_any (b off len cap : Nat) (d : Nat → Int) (i : Nat) (w : World) (hi : i ≤ len) (hm : len ≤ 1048576)
    (hc : ∀ k, k < len → w.cell? ⟨b, off + k, none⟩ = some (.int .u8 (d k))) :
    Calls Try.prog 24 #[.slice (some ⟨b, off, none⟩) len cap, .int .i64 i] w fun e w' => e = .returned (.int .i64 (skd d len i)) ∧ w' = w := by
  go_enter Try.func24, Try.ntmps24
  go_wp2
  go_loop [1] (fun t => ∃ k : Nat, k ≤ len ∧ t = .int .i64 k ∧ skd d len k = skd d len i) (fun t => len - (intOf t).toNat)
  case atStart => exact ⟨i, hi, rfl, rfl⟩
  case round =>
    obtain ⟨k, hk, rfl, hr⟩ := hrel
    have HR : Hid (skd d len k = skd d len i) := hr
    clear hr
    by_cases hlt : k < len
    · have g := hc k hlt
      cases hd : dig (d k) with
      | true =>
        go_wp2_with (go_at_call 23; refine (digit_yes _ _ hd).mono ?_; rintro e w' ⟨rfl, rfl⟩)
        go_round
        case rel => exact ⟨k + 1, by omega, by go_num, by rw [← skd_hit hlt hd]; exact HR.out⟩
        case measure => simp [intOf]; omega
      | false =>
        go_wp2_with (go_at_call 23; refine (digit_no _ _ hd).mono ?_; rintro e w' ⟨rfl, rfl⟩)
        go_ret
        exact ⟨ret_i64 (by rw [← HR.out, skd_stop (by simp [hd])]), rfl⟩
    · go_wp2
      go_ret
      exact ⟨ret_i64 (by rw [← HR.out, skd_stop (fun q => hlt q.1)]), rfl⟩

end Go.Proofs.Qxb6605498a

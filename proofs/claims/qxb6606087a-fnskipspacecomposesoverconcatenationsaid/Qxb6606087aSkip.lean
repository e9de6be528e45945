/-
  THE WALKS OF skipSpace (11), ZZskipSpace (7), isJSONSpace (8) AND OF THE BOUNDS ON THE LENGTH (6, 9, 10).
-/
import Derived.Test.Qxb6606087aProg
import Derived.Test.Qxb6606087aPlain
import Derived.Test.Qxb6606087aCopy
import Derived.WalkKit
namespace Go.Proofs.Qxb6606087a
open Go.RowKit Plain

theorem ret_bool {a b : Bool} (h : a = b) : Ending.returned (.bool a) = .returned (.bool b) := by rw [h]
theorem ret_i64 {a b : Int} (h : a = b) : Ending.returned (.int .i64 a) = .returned (.int .i64 b) := by rw [h]

set_option maxRecDepth 20000 in
theorem space_any (c : Int) (w : World) : Calls Try.prog 8 #[.int .u8 c] w fun e w' => e = .returned (.bool (spc c)) ∧ w = w' := by
  by_cases h1 : c = 32
  · subst h1
    go_enter Try.func8, Try.ntmps8
    go_wp2
    go_ret
    exact ⟨rfl, rfl⟩
  · by_cases h2 : c = 9
    · subst h2
      go_enter Try.func8, Try.ntmps8
      go_wp2
      go_ret
      exact ⟨rfl, rfl⟩
    · by_cases h3 : c = 10
      · subst h3
        go_enter Try.func8, Try.ntmps8
        go_wp2
        go_ret
        exact ⟨rfl, rfl⟩
      · go_enter Try.func8, Try.ntmps8
        go_wp2
        go_ret
        exact ⟨ret_bool (spc_beq c), rfl⟩
theorem space_yes (c : Int) (w : World) (h : spc c = true) : Calls Try.prog 8 #[.int .u8 c] w fun e w' => e = .returned (.bool true) ∧ w = w' := by
  have := space_any c w; rw [h] at this; exact this
theorem space_no (c : Int) (w : World) (h : spc c = false) : Calls Try.prog 8 #[.int .u8 c] w fun e w' => e = .returned (.bool false) ∧ w = w' := by
  have := space_any c w; rw [h] at this; exact this

set_option maxRecDepth 20000 in
theorem skip_any (a : Option Addr) (n cap : Nat) (d : Nat → Int) (i : Nat) (w : World) (hm : n ≤ 1048576) (hb : Bytes w a n d) :
    Calls Try.prog 11 #[.slice a n cap, .int .i64 i] w fun e w' => e = .returned (.int .i64 (sk d n i)) ∧ w = w' := by
  have HB : Hid (Bytes w a n d) := hb
  clear hb
  go_enter Try.func11, Try.ntmps11
  go_wp2
  go_loop [1] (fun t => ∃ k : Nat, t = .int .i64 k ∧ sk d n k = sk d n i) (fun t => n - (intOf t).toNat)
  case atStart => exact ⟨i, rfl, rfl⟩
  case round =>
    obtain ⟨k, rfl, hr⟩ := hrel
    have HR : Hid (sk d n k = sk d n i) := hr
    clear hr
    by_cases hlt : k < n
    · rcases HB.out with h0 | ⟨b, off, rfl, _, hc⟩
      · omega
      · have g := hc k hlt
        clear hc
        go_wp2
        all_goals first
          | (have q1 : (d k == 32) = false := by assumption
             have q2 : (d k == 9) = false := by assumption
             have q3 : (d k == 10) = false := by assumption
             have q4 : (d k == 13) = false := by assumption
             have hn := spc_none q1 q2 q3 q4
             go_ret
             exact ⟨ret_i64 (by rw [← HR.out, sk_stop (by simp [hn])]), rfl⟩)
          | (have hsp : spc (d k) = true := by first | exact spc_32 (by assumption) | exact spc_9 (by assumption) | exact spc_10 (by assumption) | exact spc_13 (by assumption)
             go_round
             case rel => exact ⟨k + 1, by go_num, by rw [← sk_hit hlt hsp]; exact HR.out⟩
             case measure => simp [intOf]; omega)
    · go_wp2
      go_ret
      exact ⟨ret_i64 (by rw [← HR.out, sk_stop (fun q => hlt q.1)]), rfl⟩

theorem zskip_any (a : Option Addr) (n cap : Nat) (d : Nat → Int) (i : Nat) (iv : Int) (hiv : iv = i) (w : World) (hm : n ≤ 1048576) (hb : Bytes w a n d) :
    Calls Try.prog 7 #[.slice a n cap, .int .i64 iv] w fun e w' => e = .returned (.int .i64 (sk d n i)) ∧ w = w' := by
  subst hiv
  have h := skip_any a n cap d i w hm hb
  clear hb
  go_enter Try.func7, Try.ntmps7
  go_wp2_with (go_at_call 11; refine h.mono ?_; rintro e w' ⟨rfl, rfl⟩)
  go_ret
  exact ⟨rfl, rfl⟩

theorem zz6_yes (a : Option Addr) (len cap : Nat) (i : Int) (w : World) (h : len ≤ 1048576) : Calls Try.prog 6 #[.slice a len cap, .int .i64 i] w fun e w' => e = .returned (.bool true) ∧ w = w' := by
  go_enter Try.func6, Try.ntmps6
  go_wp2
  go_ret
  exact ⟨rfl, rfl⟩
theorem zz6_no (a : Option Addr) (len cap : Nat) (i : Int) (w : World) (h : ¬ len ≤ 1048576) : Calls Try.prog 6 #[.slice a len cap, .int .i64 i] w fun e w' => e = .returned (.bool false) ∧ w = w' := by
  go_enter Try.func6, Try.ntmps6
  go_wp2
  go_ret
  exact ⟨rfl, rfl⟩
theorem zz9_yes (a : Option Addr) (len cap : Nat) (i j : Int) (w : World) (h : len ≤ 1048576) : Calls Try.prog 9 #[.slice a len cap, .int .i64 i, .int .u32 j] w fun e w' => e = .returned (.bool true) ∧ w = w' := by
  go_enter Try.func9, Try.ntmps9
  go_wp2
  go_ret
  exact ⟨rfl, rfl⟩
theorem zz9_no (a : Option Addr) (len cap : Nat) (i j : Int) (w : World) (h : ¬ len ≤ 1048576) : Calls Try.prog 9 #[.slice a len cap, .int .i64 i, .int .u32 j] w fun e w' => e = .returned (.bool false) ∧ w = w' := by
  go_enter Try.func9, Try.ntmps9
  go_wp2
  go_ret
  exact ⟨rfl, rfl⟩
end Go.Proofs.Qxb6606087a

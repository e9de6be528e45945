/-
  THE WALKS OF numberStep (20) AND numberAutomaton (10).
-/
import Derived.Test.Qxb6605498aDigits
import Derived.WalkKit
namespace Go.Proofs.Qxb6605498a
open Go.RowKit Plain

set_option maxRecDepth 20000 in
set_option maxHeartbeats 1000000 in
theorem step_any (s c : Int) (h0 : 0 ≤ s) (h8 : s ≤ 8) (w : World) : Calls Try.prog 20 #[.int .i64 s, .int .u8 c] w fun e w' => e = .returned (.int .i64 (Plain.step s c)) ∧ w' = w := by
  have hs : s = 0 ∨ s = 1 ∨ s = 2 ∨ s = 3 ∨ s = 4 ∨ s = 5 ∨ s = 6 ∨ s = 7 ∨ s = 8 := by omega
  clear h0 h8
  have HD : Hid (dig c = true ↔ 48 ≤ c ∧ c ≤ 57) := dig_iff c
  rcases hs with rfl | rfl | rfl | rfl | rfl | rfl | rfl | rfl | rfl
  all_goals
    go_enter Try.func20, Try.ntmps20
    go_wp2
    all_goals first
      | (go_ret; refine ⟨ret_i64 ?_, rfl⟩; simp_all [Plain.step, dig]; done)
      | (go_ret; refine ⟨ret_i64 ?_, rfl⟩; simp_all [Plain.step, dig]; omega)

/-- numberAutomaton's answer as the walk hands it back. -/
def ans4 (A : Ans) : Value := .tuple #[.int .i64 A.1, .bool A.2.1, .bool A.2.2.1, .bool A.2.2.2]
theorem ret_ans4 {A B : Ans} (h : A = B) : Ending.returned (ans4 B) = .returned (ans4 A) := by rw [h]

set_option maxRecDepth 20000 in
set_option maxHeartbeats 1000000 in
theorem auto_any (b off len cap : Nat) (d : Nat → Int) (i : Nat) (w : World) (hi : i ≤ len) (hm : len ≤ 1048576)
    (hc : ∀ k, k < len → w.cell? ⟨b, off + k, none⟩ = some (.int .u8 (d k))) :
    Calls Try.prog 10 #[.slice (some ⟨b, off, none⟩) len cap, .int .i64 i] w fun e w' => e = .returned (ans4 (Plain.run d len 0 false false i)) ∧ w' = w := by
  have HC : Hid (∀ k, k < len → w.cell? ⟨b, off + k, none⟩ = some (.int .u8 (d k))) := hc
  clear hc
  go_enter Try.func10, Try.ntmps10
  go_wp2
  go_loop [8, 9, 10, 11] (fun s8 s9 s10 s11 => ∃ (st : Int) (f x : Bool) (p : Nat), 0 ≤ st ∧ st ≤ 8 ∧ p ≤ len ∧ s8 = .int .i64 st ∧ s9 = .bool f ∧ s10 = .bool x ∧ s11 = .int .i64 p ∧ Hid (Plain.run d len st f x p = Plain.run d len 0 false false i)) (fun _ _ _ s11 => len - (intOf s11).toNat)
  case atStart => exact ⟨0, false, false, i, by omega, by omega, hi, rfl, rfl, rfl, rfl, rfl⟩
  case round =>
    obtain ⟨st, f, x, p, hs0, hs8, hp, rfl, rfl, rfl, rfl, HR⟩ := hrel
    by_cases hlt : p < len
    · have g := HC.out p hlt
      have h20 := step_any st (d p) hs0 hs8 w
      have hb := step_bd st (d p)
      have HG : Hid (0 ≤ Plain.step st (d p) → Plain.run d len st f x p = Plain.run d len (Plain.step st (d p)) (f || decide (Plain.step st (d p) = 4)) (x || decide (Plain.step st (d p) = 6)) (p + 1)) := fun h => run_go hlt h
      have HN : Hid (¬ 0 ≤ Plain.step st (d p) → Plain.run d len st f x p = (p, f, x, acc st)) := fun h => run_stop (fun q => h q.2)
      obtain ⟨n, hn⟩ : ∃ n, n = Plain.step st (d p) := ⟨_, rfl⟩
      rw [← hn] at h20 hb HG HN
      clear hn
      by_cases hn0 : 0 ≤ n
      · have hn8 : n ≤ 8 := by omega
        clear hb HN
        have HG' := HG.out hn0
        have HG2 : Hid (Plain.run d len st f x p = Plain.run d len n (f || decide (n = 4)) (x || decide (n = 6)) (p + 1)) := HG'
        clear HG' HG
        by_cases h4 : n = 4
        · subst h4
          go_wp2_with (go_at_call 20; refine h20.mono ?_; rintro e w' ⟨rfl, rfl⟩)
          go_round
          case rel => exact ⟨4, true, x, p + 1, by omega, by omega, by omega, rfl, rfl, rfl, by go_num, by rw [← HR.out, HG2.out]; simp [Hid]⟩
          case measure => simp [intOf]; omega
        · by_cases h6 : n = 6
          · subst h6
            go_wp2_with (go_at_call 20; refine h20.mono ?_; rintro e w' ⟨rfl, rfl⟩)
            go_round
            case rel => exact ⟨6, f, true, p + 1, by omega, by omega, by omega, rfl, rfl, rfl, by go_num, by rw [← HR.out, HG2.out]; simp [Hid]⟩
            case measure => simp [intOf]; omega
          · go_wp2_with (go_at_call 20; refine h20.mono ?_; rintro e w' ⟨rfl, rfl⟩)
            go_round
            case rel => exact ⟨n, f, x, p + 1, by omega, by omega, by omega, rfl, rfl, rfl, by go_num, by rw [← HR.out, HG2.out]; simp [Hid, h4, h6]⟩
            case measure => simp [intOf]; omega
      · have HN2 : Hid (Plain.run d len st f x p = (p, f, x, acc st)) := HN.out hn0
        have hn1 : n < 0 := by omega
        clear HN HG hb hn0
        have hst : st = 0 ∨ st = 1 ∨ st = 2 ∨ st = 3 ∨ st = 4 ∨ st = 5 ∨ st = 6 ∨ st = 7 ∨ st = 8 := by omega
        clear hs0 hs8
        rcases hst with rfl | rfl | rfl | rfl | rfl | rfl | rfl | rfl | rfl
        all_goals
          go_wp2_with (go_at_call 20; refine h20.mono ?_; rintro e w' ⟨rfl, rfl⟩)
          exact bodyPost_ret (v := ans4 (p, f, x, acc _)) (by simp [ans4, acc, results, Try.results10, go_sem]) rfl ⟨ret_ans4 (HR.out.symm.trans HN2.out), rfl⟩
    · have HN2 : Hid (Plain.run d len st f x p = (p, f, x, acc st)) := run_stop (fun q => hlt q.1)
      have hst : st = 0 ∨ st = 1 ∨ st = 2 ∨ st = 3 ∨ st = 4 ∨ st = 5 ∨ st = 6 ∨ st = 7 ∨ st = 8 := by omega
      clear hs0 hs8
      rcases hst with rfl | rfl | rfl | rfl | rfl | rfl | rfl | rfl | rfl
      all_goals
        go_wp2_with fail
        exact bodyPost_ret (v := ans4 (p, f, x, acc _)) (by simp [ans4, acc, results, Try.results10, go_sem]) rfl ⟨ret_ans4 (HR.out.symm.trans HN2.out), rfl⟩
end Go.Proofs.Qxb6605498a

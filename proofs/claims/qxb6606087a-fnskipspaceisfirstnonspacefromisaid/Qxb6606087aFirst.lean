/-
  THE WALK OF FnSkipSpaceIsFirstNonSpaceFromI (3).
-/
import Derived.Test.Qxb6606087aCopied
import Derived.Deep.DeepCutAuto
namespace Go.Proofs.Qxb6606087a
open Go.RowKit Plain

set_option maxRecDepth 20000 in
set_option maxHeartbeats 1000000 in
theorem first_core (a : Option Addr) (len cap : Nat) (d : Nat → Int) (i : Nat) (w : World) (hm : len ≤ 1048576) (hi : i ≤ 9223372036854775807) (hb : Bytes w a len d) :
    Calls Try.prog 3 #[.slice a len cap, .int .i64 i] w fun e w' => e = .returned (.bool true) ∧ Below w.heap.size w w' := by
  have hmk := fun w => run_make_row' (P := Try.prog) 22 5 (.int .u8 0) 1 Try.underlying22 Try.info5 rfl .i64 .i64 len (by omega) (by omega) w
  have hnq := fun w => run_neq_slice_nil_any (P := Try.prog) w 22 5 a len cap 0 0 Try.underlying22
  have HB : Hid (Bytes w a len d) := hb
  clear hb
  go_enter Try.func3, Try.ntmps3
  go_upto_if 18 with (go_at_call 6; refine (zz6_yes _ _ _ _ _ hm).mono ?_; rintro e w' ⟨rfl, rfl⟩)
  go_cut [0] (fun s0 wx => ∃ a' c', s0 = .slice a' len c' ∧ Hid (Bytes wx a' len d) ∧ Below w.heap.size w wx)
  case first =>
    cases a with
    | none =>
      go_wp2_with fail
      go_meet
      case rel => exact ⟨_, _, rfl, HB, Below.refl _ _⟩
    | some x =>
      go_wp2_with (refine wpList_copy_made (by rfl) (.tmp 22) (.tmp 23) 22 22 (by rfl) 5 Try.underlying22 Try.size5 len cap _ (by rfl) (by rfl) (.int .u8 0) 5 (fun k => .int .u8 (d k)) (fun _ => rfl) (bytes_src HB.out) ?_; intro w1 HR hB1 hlt1)
      go_meet
      case rel => exact ⟨_, _, rfl, bytes_row HR.out, hB1⟩
  case rest =>
  obtain ⟨a', c', rfl, HB', hBx⟩ := hcut
  clear HB hmk hnq
  by_cases hlt : i < len
  · have r1 := sk_ge d len i
    have r2 := sk_le d len i (by omega)
    have HE : Hid (¬ (sk d len i < len ∧ spc (d (sk d len i)) = true)) := sk_end d len i
    have HA : Hid (∀ k, i ≤ k → k < sk d len i → spc (d k) = true) := fun k h1 h2 => sk_all d len k i h1 h2
    have h7 := zskip_any a' len c' d i i rfl wc hm HB'.out
    obtain ⟨b, off, rfl, -, hc⟩ : ∃ b off, a' = some ⟨b, off, none⟩ ∧ b < wc.heap.size ∧ ∀ k, k < len → wc.cell? ⟨b, off + k, none⟩ = some (.int .u8 (d k)) := HB'.out.resolve_left (by omega)
    have HC : Hid (∀ k, k < len → wc.cell? ⟨b, off + k, none⟩ = some (.int .u8 (d k))) := hc
    clear hc HB'
    obtain ⟨r, hr⟩ : ∃ r, r = sk d len i := ⟨_, rfl⟩
    rw [← hr] at r1 r2 HE HA h7
    clear hr
    have q1 : decide (r < i) = false := decide_eq_false (by omega)
    have q3 : decide (len ≤ i) = false := decide_eq_false (by omega)
    have q2 : decide (len < r) = false := decide_eq_false (by omega)
    go_wp2_with (go_at_call 7; refine h7.mono ?_; rintro e w' ⟨rfl, rfl⟩)
    clear h7
    go_loop [7] (fun t => ∃ k : Nat, i ≤ k ∧ k ≤ r ∧ t = .int .i64 k) (fun t => r - (intOf t).toNat)
    case atStart => exact ⟨i, Nat.le_refl _, r1, rfl⟩
    case round =>
      obtain ⟨k, hk1, hk2, rfl⟩ := hrel
      by_cases hkr : k < r
      · have g := HC.out k (by omega)
        have hs := HA.out k hk1 hkr
        go_wp2_with (go_at_call 8; refine (space_yes _ _ hs).mono ?_; rintro e w' ⟨rfl, rfl⟩)
        go_round
        case rel => exact ⟨k + 1, by omega, by omega, by go_num⟩
        case measure => simp [intOf]; omega
      · by_cases hrl : r < len
        · have g := HC.out r hrl
          have hn : spc (d r) = false := by
            cases q : spc (d r) with
            | false => rfl
            | true => exact absurd ⟨hrl, q⟩ HE.out
          have he : ((r : Int) == (len : Int)) = false := by simp; omega
          go_wp2_with (go_at_call 8; refine (space_no _ _ hn).mono ?_; rintro e w' ⟨rfl, rfl⟩)
          go_ret
          exact ⟨rfl, hBx⟩
        · have he : ((r : Int) == (len : Int)) = true := by simp; omega
          go_wp2_with fail
          go_ret
          exact ⟨rfl, hBx⟩
  · have HS : Hid (sk d len i = i) := sk_stop (fun q => hlt q.1)
    go_wp2_with (go_at_call 7; refine (zskip_any _ _ _ d i _ rfl _ hm HB'.out).mono ?_; rintro e w' ⟨rfl, rfl⟩)
    go_ret
    exact ⟨ret_bool (by rw [HS.out]; simp), hBx⟩
end Go.Proofs.Qxb6606087a

/-
  THE WALK OF FnSkipSpaceIdempotentAndAbsorbing (4).
-/
import Derived.Test.Qxb6606087aCopied
import Derived.Deep.DeepCutAuto
namespace Go.Proofs.Qxb6606087a
open Go.RowKit Plain

/-- 'j := i + int(d%uint32(r-i+1))', as the walk spells it. -/
theorem jval (i r dd : Nat) (h1 : i ≤ r) (h2 : r ≤ 1048576) : wrap64 ((i : Int) + wrap64 ((dd : Int) % ((r : Int) - (i : Int) + 1))) = ((i + dd % (r - i + 1) : Nat) : Int) := by
  have e : (dd : Int) % ((r : Int) - (i : Int) + 1) = ((dd % (r - i + 1) : Nat) : Int) := by
    rw [show (r : Int) - (i : Int) + 1 = ((r - i + 1 : Nat) : Int) by omega]
    exact (Int.natCast_emod dd (r - i + 1)).symm
  have l : dd % (r - i + 1) < r - i + 1 := Nat.mod_lt _ (by omega)
  rw [e]
  unfold wrap64
  omega

set_option maxRecDepth 20000 in
set_option maxHeartbeats 1000000 in
theorem idem_core (a : Option Addr) (len cap : Nat) (d : Nat → Int) (i : Nat) (dd : Nat) (w : World) (hm : len ≤ 1048576) (hi : i ≤ len) (hd : dd ≤ 4294967295) (hb : Bytes w a len d) :
    Calls Try.prog 4 #[.slice a len cap, .int .i64 i, .int .u32 dd] w fun e w' => e = .returned (.bool true) ∧ Below w.heap.size w w' := by
  have hmk := fun w => run_make_row' (P := Try.prog) 22 5 (.int .u8 0) 1 Try.underlying22 Try.info5 rfl .i64 .i64 len (by omega) (by omega) w
  have hnq := fun w => run_neq_slice_nil_any (P := Try.prog) w 22 5 a len cap 0 0 Try.underlying22
  have HB : Hid (Bytes w a len d) := hb
  clear hb
  go_enter Try.func4, Try.ntmps4
  go_upto_if 27 with (go_at_call 9; refine (zz9_yes _ _ _ _ _ _ hm).mono ?_; rintro e w' ⟨rfl, rfl⟩)
  go_cut [0] (fun s0 wx => ∃ a' c', s0 = .slice a' len c' ∧ Hid (Bytes wx a' len d) ∧ Below w.heap.size w wx)
  case first =>
    cases a with
    | none =>
      go_wp2_with fail
      go_meet
      case rel => exact ⟨_, _, rfl, HB, Below.refl _ _⟩
    | some x =>
      go_wp2_with (refine wpList_copy_made (by rfl) (.tmp 31) (.tmp 32) 22 22 (by rfl) 5 Try.underlying22 Try.size5 len cap _ (by rfl) (by rfl) (.int .u8 0) 5 (fun k => .int .u8 (d k)) (fun _ => rfl) (bytes_src HB.out) ?_; intro w1 HR hB1 hlt1)
      go_meet
      case rel => exact ⟨_, _, rfl, bytes_row HR.out, hB1⟩
  case rest =>
  obtain ⟨a', c', rfl, HB', hBx⟩ := hcut
  clear HB hmk hnq
  have r1 := sk_ge d len i
  have r2 := sk_le d len i hi
  have h7 := zskip_any a' len c' d i i rfl wc hm HB'.out
  have h7r := zskip_any a' len c' d (sk d len i) (sk d len i) rfl wc hm HB'.out
  rw [sk_from d len _ i r1 (Nat.le_refl _)] at h7r
  have H7j : Hid (∀ j, i ≤ j → j ≤ sk d len i → Calls Try.prog 7 #[.slice a' len c', .int .i64 j] wc fun e w' => e = .returned (.int .i64 (sk d len i)) ∧ wc = w') := fun j h1 h2 => by
    have := zskip_any a' len c' d j j rfl wc hm HB'.out
    rw [sk_from d len j i h1 h2] at this
    exact this
  obtain ⟨r, hr⟩ : ∃ r, r = sk d len i := ⟨_, rfl⟩
  rw [← hr] at r1 r2 h7 h7r H7j
  clear hr HB'
  have q1 : decide (r < i) = false := decide_eq_false (by omega)
  have q2 : decide (len < r) = false := decide_eq_false (by omega)
  go_wp2_with fail
  refine h7.mono ?_
  rintro e w' ⟨rfl, rfl⟩
  go_wp2_with fail
  refine h7r.mono ?_
  rintro e w' ⟨rfl, rfl⟩
  go_wp2_with fail
  rw [jval i r dd r1 (by omega)]
  have l : dd % (r - i + 1) < r - i + 1 := Nat.mod_lt _ (by omega)
  refine (H7j.out (i + dd % (r - i + 1)) (by omega) (by omega)).mono ?_
  rintro e w' ⟨rfl, rfl⟩
  go_wp2
  go_ret
  exact ⟨ret_bool (by simp), hBx⟩
end Go.Proofs.Qxb6606087a

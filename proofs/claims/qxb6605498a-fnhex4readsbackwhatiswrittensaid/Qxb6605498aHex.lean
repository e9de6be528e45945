/-
  THE WALKS OF hexValue (14), hex4 (21), ZZhex4 (13).
-/
import Derived.Test.Qxb6605498aDigits
import Derived.Test.Qxb6605498aHexPlain
import Derived.Test.Qxb6605498aCopy
import Derived.WalkKit
namespace Go.Proofs.Qxb6605498a
open Go.RowKit Plain

set_option maxRecDepth 20000 in
set_option maxHeartbeats 1000000 in
theorem hexv_any (c : Int) (w : World) : Calls Try.prog 14 #[.int .u8 c] w fun e w' => e = .returned (.int .i64 (hexv c)) ∧ w' = w := by
  go_enter Try.func14, Try.ntmps14
  go_wp2
  go_loop [3] (fun t => ∃ k : Nat, k ≤ 22 ∧ t = .int .i64 k ∧ Hid (∀ j, j < k → tbl j ≠ c)) (fun t => 22 - (intOf t).toNat)
  case atStart => exact ⟨0, by omega, rfl, fun j hj => by omega⟩
  case round =>
    obtain ⟨k, hk, rfl, HN⟩ := hrel
    by_cases hlt : k < 22
    · have HT : Hid (_ = tbl k) := tbl_str ⟨k, hlt⟩
      by_cases h16 : k < 16
      · go_wp2
        · have q : (((((⟨#[48, 49, 50, 51, 52, 53, 54, 55, 56, 57, 97, 98, 99, 100, 101, 102, 65, 66, 67, 68, 69, 70]⟩ : ByteArray)[k]'hlt).toNat : Nat) : Int) == c) = true := by assumption
          go_ret
          exact ⟨ret_i64 (hexv_lo hlt (HT.out.symm.trans (by simpa using q)) h16).symm, rfl⟩
        · have q : (((((⟨#[48, 49, 50, 51, 52, 53, 54, 55, 56, 57, 97, 98, 99, 100, 101, 102, 65, 66, 67, 68, 69, 70]⟩ : ByteArray)[k]'hlt).toNat : Nat) : Int) == c) = false := by assumption
          go_round
          case rel =>
            refine ⟨k + 1, by omega, by go_num, fun j hj => ?_⟩
            by_cases e : j = k
            · subst e; intro r; simp only [beq_eq_false_iff_ne] at q; exact q (HT.out.trans r)
            · exact HN.out j (by omega)
          case measure => simp [intOf]; omega
      · go_wp2
        · have q : (((((⟨#[48, 49, 50, 51, 52, 53, 54, 55, 56, 57, 97, 98, 99, 100, 101, 102, 65, 66, 67, 68, 69, 70]⟩ : ByteArray)[k]'hlt).toNat : Nat) : Int) == c) = true := by assumption
          go_ret
          exact ⟨ret_i64 (hexv_hi hlt (HT.out.symm.trans (by simpa using q)) h16).symm, rfl⟩
        · have q : (((((⟨#[48, 49, 50, 51, 52, 53, 54, 55, 56, 57, 97, 98, 99, 100, 101, 102, 65, 66, 67, 68, 69, 70]⟩ : ByteArray)[k]'hlt).toNat : Nat) : Int) == c) = false := by assumption
          go_round
          case rel =>
            refine ⟨k + 1, by omega, by go_num, fun j hj => ?_⟩
            by_cases e : j = k
            · subst e; intro r; simp only [beq_eq_false_iff_ne] at q; exact q (HT.out.trans r)
            · exact HN.out j (by omega)
          case measure => simp [intOf]; omega
    · go_wp2
      go_ret
      exact ⟨ret_i64 (hexv_none (fun j hj => HN.out j (by omega))).symm, rfl⟩

/-- 'n<<4 | v', n below 4096, v below 16, as the walk spells it. -/
theorem or16_nat (a b : Nat) (ha : a ≤ 4095) (hb : b < 16) : bits .or .i64 ((a : Int) * 16) (b : Int) = (a : Int) * 16 + (b : Int) := by
  have e1 : (a : Int) * 16 = ((16 * a : Nat) : Int) := by omega
  have e2 : 16 * a ||| b = 16 * a + b := (Nat.two_pow_add_eq_or_of_lt (i := 4) (by omega) a).symm
  rw [e1]
  show IntKind.i64.wrap ((BitVec.ofInt 64 ((16 * a : Nat) : Int) ||| BitVec.ofInt 64 (b : Int)).toNat : Int) = _
  have m1 : (16 * a) % 2 ^ 64 = 16 * a := Nat.mod_eq_of_lt (by omega)
  have m2 : b % 2 ^ 64 = b := Nat.mod_eq_of_lt (by omega)
  rw [BitVec.toNat_or, BitVec.ofInt_natCast, BitVec.ofInt_natCast, BitVec.toNat_ofNat, BitVec.toNat_ofNat, m1, m2, e2]
  rw [IntKind.wrap_i64]
  omega
theorem or16 (a b : Int) (h1 : 0 ≤ a) (h2 : a ≤ 4095) (h3 : 0 ≤ b) (h4 : b < 16) : bits .or .i64 (a * 16) b = a * 16 + b := by
  obtain ⟨A, rfl⟩ := Int.eq_ofNat_of_zero_le h1
  obtain ⟨B, rfl⟩ := Int.eq_ofNat_of_zero_le h3
  exact or16_nat A B (by omega) (by omega)
theorem next_dig {d : Nat → Int} {i k : Nat} (h : ∀ j, j < k → 0 ≤ hexv (d (i + j))) (hk : 0 ≤ hexv (d (i + k))) {j : Nat} (hj : j < k + 1) : 0 ≤ hexv (d (i + j)) := by
  by_cases e : j = k
  · rw [e]; exact hk
  · exact h j (by omega)
theorem ret_pair {A B : Int × Bool} (h : A = B) : Ending.returned (.tuple #[.int .i64 B.1, .bool B.2]) = .returned (.tuple #[.int .i64 A.1, .bool A.2]) := by rw [h]
theorem val_i64 {a b : Int} (h : a = b) : Value.int .i64 a = .int .i64 b := by rw [h]

set_option maxRecDepth 20000 in
set_option maxHeartbeats 1000000 in
theorem hex4_go (b off n cap : Nat) (d : Nat → Int) (i : Nat) (w : World) (hn : i + 4 ≤ n) (hcap : n ≤ cap) (hcm : cap ≤ 9223372036854775807) (hc : ∀ k, k < n → w.cell? ⟨b, off + k, none⟩ = some (.int .u8 (d k)))
    (hd : ∀ k, 0 ≤ d k ∧ d k ≤ 255) :
    Calls Try.prog 21 #[.slice (some ⟨b, off, none⟩) n cap, .int .i64 i] w fun e w' => e = .returned (.tuple #[.int .i64 (hex4 d n i).1, .bool (hex4 d n i).2]) ∧ w' = w := by
  have HC : Hid (∀ k, k < n → w.cell? ⟨b, off + k, none⟩ = some (.int .u8 (d k))) := hc
  have HD : Hid (∀ k, 0 ≤ d k ∧ d k ≤ 255) := hd
  clear hc hd
  have nc : ¬ cap = i := by omega
  have q0 : decide ((n : Int) < (i : Int) + 4) = false := decide_eq_false (by omega)
  go_enter Try.func21, Try.ntmps21
  go_wp2
  rw [show i + 4 - i = 4 by omega]
  go_loop [6, 20] (fun s6 s20 => ∃ k : Nat, k ≤ 4 ∧ s20 = .int .i64 k ∧ s6 = .int .i64 (hv d i k) ∧ Hid (∀ j, j < k → 0 ≤ hexv (d (i + j)))) (fun _ s20 => 4 - (intOf s20).toNat)
  case atStart => exact ⟨0, by omega, rfl, rfl, fun j hj => by omega⟩
  case round =>
    obtain ⟨k, hk, rfl, rfl, HV⟩ := hrel
    have bd := hv_bd d i k hk HV.out
    by_cases hlt : k < 4
    · have g := HC.out (i + k) (by omega)
      rw [← Nat.add_assoc] at g
      obtain ⟨c, hcd⟩ : ∃ c, c = d (i + k) := ⟨_, rfl⟩
      have hb := HD.out (i + k)
      rw [← hcd] at g hb
      have HCD : Hid (c = d (i + k)) := hcd
      clear hcd
      by_cases hdg : 48 ≤ c ∧ c ≤ 57
      · have hd1 : dig c = true := by rw [dig_iff]; exact hdg
        go_wp2_with (go_at_call 23; refine (digit_yes _ _ hd1).mono ?_; rintro e w' ⟨rfl, rfl⟩)
        have hx : hexv c = c - 48 := by unfold hexv; rw [if_pos hdg]
        go_round
        case rel => exact ⟨k + 1, by omega, by go_num, val_i64 (by rw [or16 _ _ bd.1 (bd.2.2 (by omega)) (by omega) (by omega)]; show _ = hv d i k * 16 + hexv (d (i + k)); rw [← HCD.out, hx]), fun j hj => next_dig HV.out (by rw [← HCD.out, hx]; omega) hj⟩
        case measure => simp [intOf]; omega
      · have hd0 : dig c = false := by rw [dig_not]; omega
        by_cases hlo : 97 ≤ c ∧ c ≤ 102
        · have hx : hexv c = c - 87 := by unfold hexv; rw [if_neg hdg, if_pos hlo]
          go_wp2_with (go_at_call 23; refine (digit_no _ _ hd0).mono ?_; rintro e w' ⟨rfl, rfl⟩)
          go_round
          case rel => exact ⟨k + 1, by omega, by go_num, val_i64 (by rw [or16 _ _ bd.1 (bd.2.2 (by omega)) (by omega) (by omega)]; show _ = hv d i k * 16 + hexv (d (i + k)); rw [← HCD.out, hx]; omega), fun j hj => next_dig HV.out (by rw [← HCD.out, hx]; omega) hj⟩
          case measure => simp [intOf]; omega
        · by_cases hup : 65 ≤ c ∧ c ≤ 70
          · have hx : hexv c = c - 55 := by unfold hexv; rw [if_neg hdg, if_neg hlo, if_pos hup]
            go_wp2_with (go_at_call 23; refine (digit_no _ _ hd0).mono ?_; rintro e w' ⟨rfl, rfl⟩)
            go_round
            case rel => exact ⟨k + 1, by omega, by go_num, val_i64 (by rw [or16 _ _ bd.1 (bd.2.2 (by omega)) (by omega) (by omega)]; show _ = hv d i k * 16 + hexv (d (i + k)); rw [← HCD.out, hx]; omega), fun j hj => next_dig HV.out (by rw [← HCD.out, hx]; omega) hj⟩
            case measure => simp [intOf]; omega
          · have hx : hexv c = -1 := by unfold hexv; rw [if_neg hdg, if_neg hlo, if_neg hup]
            have HX : Hid (hex4 d n i = (0, false)) := hex4_bad hlt (by rw [← HCD.out, hx]; omega)
            clear hx
            go_wp2_with (go_at_call 23; refine (digit_no _ _ hd0).mono ?_; rintro e w' ⟨rfl, rfl⟩)
            all_goals (go_ret2; exact ⟨ret_pair HX.out, rfl⟩)
    · obtain rfl : k = 4 := by omega
      have HX : Hid (hex4 d n i = (hv d i 4, true)) := hex4_yes hn HV.out
      go_wp2_with fail
      go_ret2
      exact ⟨ret_pair HX.out, rfl⟩

theorem hex4_no (a : Option Addr) (n cap : Nat) (d : Nat → Int) (i : Nat) (w : World) (hi : i ≤ 9223372036854775803) (hn : ¬ i + 4 ≤ n) (_hm : n ≤ 9223372036854775807) :
    Calls Try.prog 21 #[.slice a n cap, .int .i64 i] w fun e w' => e = .returned (.tuple #[.int .i64 (hex4 d n i).1, .bool (hex4 d n i).2]) ∧ w' = w := by
  have HX : Hid (hex4 d n i = (0, false)) := hex4_short hn
  go_enter Try.func21, Try.ntmps21
  go_wp2
  go_ret2
  exact ⟨ret_pair HX.out, rfl⟩

theorem zhex_any (a : Option Addr) (n cap : Nat) (d : Nat → Int) (i : Nat) (iv : Int) (hiv : iv = i) (w : World) (hi : i ≤ 9223372036854775803) (hcap : n ≤ cap) (hcm : cap ≤ 9223372036854775807) (hb : Bytes w a n d) (hd : ∀ k, 0 ≤ d k ∧ d k ≤ 255)
    (v : Int) (ok : Bool) (hv : hex4 d n i = (v, ok)) :
    Calls Try.prog 13 #[.slice a n cap, .int .i64 iv] w fun e w' => e = .returned (.tuple #[.int .i64 v, .bool ok]) ∧ w' = w := by
  subst hiv
  have h : Calls Try.prog 21 #[.slice a n cap, .int .i64 i] w fun e w' => e = .returned (.tuple #[.int .i64 v, .bool ok]) ∧ w' = w := by
    by_cases hn : i + 4 ≤ n
    · rcases hb with h0 | ⟨b, off, rfl, _, hc⟩
      · omega
      · have := hex4_go b off n cap d i w hn hcap hcm hc hd
        rw [hv] at this
        exact this
    · have := hex4_no a n cap d i w hi hn (by omega)
      rw [hv] at this
      exact this
  clear hb hd hv
  go_enter Try.func13, Try.ntmps13
  go_wp2_with (go_at_call 21; refine h.mono ?_; rintro e w' ⟨rfl, rfl⟩)
  go_ret2
  exact ⟨rfl, rfl⟩
end Go.Proofs.Qxb6605498a

/-
  THE WALK OF scanNumber (19).
-/
import Derived.Test.Qxb6605498aDigits
import Derived.WalkKit
import Derived.Deep.DeepCutAuto
import Derived.Deep.CutBlock
import Derived.RegionTactic
namespace Go.Proofs.Qxb6605498a
open Go.RowKit Plain

/-- scanNumber's answer as the walk hands it back. -/
def ansV (A : Ans) : Value := .tuple #[.int .i64 A.1, .agg #[.bool A.2.1, .bool A.2.2.1], .bool A.2.2.2]
theorem ret_ans {A B : Ans} (h : A = B) : Ending.returned (ansV B) = .returned (ansV A) := by rw [h]
abbrev Form (f x : Bool) : Obj := .cells #[.bool f, .bool x] 36

set_option maxRecDepth 20000 in
set_option maxHeartbeats 1000000 in
theorem scan_any (b off len cap : Nat) (d : Nat → Int) (i : Nat) (w : World) (hi : i < len) (hm : len ≤ 1048576) (hb : b < w.heap.size)
    (hc : ∀ k, k < len → w.cell? ⟨b, off + k, none⟩ = some (.int .u8 (d k))) :
    Calls Try.prog 19 #[.slice (some ⟨b, off, none⟩) len cap, .int .i64 i] w fun e w' => e = .returned (ansV (scan d len i)) ∧ Below w.heap.size w w' := by
  have HC : Hid (∀ o k, k < len → (w.alloc o).cell? ⟨b, off + k, none⟩ = some (.int .u8 (d k))) := fun o k hk => (((Below.refl _ w).alloc (Nat.le_refl _) o).cell (p := ⟨b, off + k, none⟩) hb).trans (hc k hk)
  have gi := HC.out (Form false false) i hi
  clear hc
  go_enter Try.func19, Try.ntmps19
  -- the sign
  go_upto_if 13 with fail
  go_cut [7] (fun s7 wx => ∃ m : Nat, m ≤ len ∧ s7 = .int .i64 m ∧ Hid (scan d len i = whole d len m) ∧ wx = w.alloc (Form false false))
  case first =>
    by_cases h45 : d i = 45
    · go_wp2_with fail
      go_meet
      case rel => exact ⟨i + 1, by omega, by go_num, scan_minus h45, rfl⟩
    · go_wp2_with fail
      go_meet
      case rel => exact ⟨i, by omega, rfl, scan_plain h45, rfl⟩
  case rest =>
  obtain ⟨m, hml, rfl, HM, rfl⟩ := hcut
  clear gi
  -- the whole part
  go_upto_block 0 with fail
  go_cut [7] (fun s7 wx => ∃ j : Nat, j ≤ len ∧ s7 = .int .i64 j ∧ Hid (scan d len i = frac d len j) ∧ wx = w.alloc (Form false false))
  case first =>
    have HK : Hid (∀ k, k ≤ len → ∀ W : World, (∀ q, q < len → W.cell? ⟨b, off + q, none⟩ = some (.int .u8 (d q))) → Calls Try.prog 24 #[.slice (some ⟨b, off, none⟩) len cap, .int .i64 k] W fun e w' => e = .returned (.int .i64 (skd d len k)) ∧ w' = W) := fun k hk W hW => skip_any b off len cap d k W hk hm hW
    by_cases hlt : m < len
    · have gm := HC.out (Form false false) m hlt
      by_cases h48 : d m = 48
      · go_wp2_with fail
        go_meet
        case rel => exact ⟨m + 1, by omega, by go_num, HM.out.trans (whole_zero hlt h48), rfl⟩
      · cases hd : dig (d m) with
        | true =>
          go_wp2_with (first | (go_at_call 23; refine (digit_yes _ _ hd).mono ?_; rintro e w' ⟨rfl, rfl⟩) | (go_at_call 24; refine (HK.out m hml _ (HC.out _)).mono ?_; rintro e w' ⟨rfl, rfl⟩))
          go_meet
          case rel => exact ⟨skd d len m, skd_le d len m hml, rfl, HM.out.trans (whole_dig hlt h48 hd), rfl⟩
        | false =>
          go_wp2_with (first | (go_at_call 23; refine (digit_no _ _ hd).mono ?_; rintro e w' ⟨rfl, rfl⟩))
          go_region
          go_wp2
          exact bodyPost_ret (v := ansV (m, false, false, false)) (by simp [ansV, results, Try.results19, go_sem]) rfl ⟨ret_ans (HM.out.trans (whole_no fun _ => hd)), ((Below.refl _ _).alloc (Nat.le_refl _) _).drew⟩
    · go_wp2_with fail
      go_region
      go_wp2
      exact bodyPost_ret (v := ansV (m, false, false, false)) (by simp [ansV, results, Try.results19, go_sem]) rfl ⟨ret_ans (HM.out.trans (whole_no fun q => absurd q hlt)), ((Below.refl _ _).alloc (Nat.le_refl _) _).drew⟩
  case rest =>
  obtain ⟨j, hjl, rfl, HJ, rfl⟩ := hcut
  clear HM hml
  clear m
  -- the fraction: its test
  go_upto_region 9 with fail
  go_cut [57] (fun s57 wx => ∃ t : Bool, s57 = .bool t ∧ Hid (t = true ↔ (j < len ∧ d j = 46)) ∧ wx = w.alloc (Form false false))
  case first =>
    by_cases hlt : j < len
    · have gj := HC.out (Form false false) j hlt
      go_wp2_with fail
      go_meet
      case rel => exact ⟨_, rfl, by simp [Hid, hlt], rfl⟩
    · go_wp2_with fail
      go_meet
      case rel => exact ⟨_, rfl, by simp [Hid, hlt], rfl⟩
  case rest =>
  obtain ⟨t, rfl, HT, rfl⟩ := hcut
  -- the fraction
  go_upto_if 57 with fail
  go_cut [7] (fun s7 wx => ∃ (p : Nat) (f : Bool), p ≤ len ∧ s7 = .int .i64 p ∧ Hid (scan d len i = expo d len f p) ∧ wx = w.alloc (Form f false))
  case first =>
    cases t with
    | false =>
      go_wp2_with fail
      go_meet
      case rel => exact ⟨j, false, hjl, rfl, HJ.out.trans (frac_none (fun q => absurd (HT.out.2 q) (by simp))), rfl⟩
    | true =>
      obtain ⟨hlt, h46⟩ := HT.out.1 rfl
      by_cases hl1 : j + 1 < len
      · have gj := HC.out (Form true false) (j + 1) hl1
        cases hd : dig (d (j + 1)) with
        | true =>
          have HK := skip_any b off len cap d (j + 1) (w.alloc (Form true false)) (by omega) hm (HC.out _)
          go_wp2_with (first | (go_at_call 23; refine (digit_yes _ _ hd).mono ?_; rintro e w' ⟨rfl, rfl⟩) | (go_at_call 24; refine HK.mono ?_; rintro e w' ⟨rfl, rfl⟩))
          go_meet
          case rel => exact ⟨skd d len (j + 1), true, skd_le d len _ (by omega), rfl, HJ.out.trans (frac_yes hlt h46 hl1 hd), rfl⟩
        | false =>
          go_wp2_with (first | (go_at_call 23; refine (digit_no _ _ hd).mono ?_; rintro e w' ⟨rfl, rfl⟩))
          go_region
          go_wp2
          exact bodyPost_ret (v := ansV (j + 1, true, false, false)) (by simp [ansV, results, Try.results19, go_sem]) rfl ⟨ret_ans (HJ.out.trans (frac_no hlt h46 fun _ => hd)), ((Below.refl _ _).alloc (Nat.le_refl _) _).drew⟩
      · have he : ((j : Int) + 1 == (len : Int)) = true := by simp; omega
        go_wp2_with fail
        go_region
        go_wp2
        exact bodyPost_ret (v := ansV (j + 1, true, false, false)) (by simp [ansV, results, Try.results19, go_sem]) rfl ⟨ret_ans (HJ.out.trans (frac_no hlt h46 fun q => absurd q hl1)), ((Below.refl _ _).alloc (Nat.le_refl _) _).drew⟩
  case rest =>
  obtain ⟨p, f, hpl, rfl, HP, rfl⟩ := hcut
  clear HJ HT hjl
  clear j t
  -- the exponent: its test
  go_upto_region 15 with fail
  go_cut [95] (fun s95 wx => ∃ t : Bool, s95 = .bool t ∧ Hid (t = true ↔ (p < len ∧ (d p = 101 ∨ d p = 69))) ∧ wx = w.alloc (Form f false))
  case first =>
    by_cases hlt : p < len
    · have gj := HC.out (Form f false) p hlt
      by_cases h101 : d p = 101
      · go_wp2_with fail
        go_meet
        case rel => exact ⟨_, rfl, by simp [Hid, hlt, h101], rfl⟩
      · go_wp2_with fail
        go_meet
        case rel => exact ⟨_, rfl, by simp [Hid, hlt, h101], rfl⟩
    · go_wp2_with fail
      go_meet
      case rel => exact ⟨_, rfl, by simp [Hid, hlt], rfl⟩
  case rest =>
  obtain ⟨t, rfl, HT, rfl⟩ := hcut
  cases t with
  | false =>
    go_wp2_with fail
    go_region
    go_wp2
    exact bodyPost_ret (v := ansV (p, f, false, true)) (by simp [ansV, results, Try.results19, go_sem]) rfl ⟨ret_ans (HP.out.trans (expo_none (fun q => absurd (HT.out.2 q) (by simp)))), ((Below.refl _ _).alloc (Nat.le_refl _) _).drew⟩
  | true =>
    obtain ⟨hlt, h1⟩ := HT.out.1 rfl
    have H1 : Hid (d p = 101 ∨ d p = 69) := h1
    clear h1 HT
    -- the exponent's sign: its test
    go_upto_region 18 with fail
    go_cut [116] (fun s116 wx => ∃ t : Bool, s116 = .bool t ∧ Hid (t = true ↔ (p + 1 < len ∧ (d (p + 1) = 43 ∨ d (p + 1) = 45))) ∧ wx = w.alloc (Form f true))
    case first =>
      by_cases hl1 : p + 1 < len
      · have gj := HC.out (Form f true) (p + 1) hl1
        by_cases h43 : d (p + 1) = 43
        · go_wp2_with fail
          go_meet
          case rel => exact ⟨_, rfl, by simp [Hid, hl1, h43], rfl⟩
        · go_wp2_with fail
          go_meet
          case rel => exact ⟨_, rfl, by simp [Hid, hl1, h43], rfl⟩
      · go_wp2_with fail
        go_meet
        case rel => exact ⟨_, rfl, by simp [Hid, hl1], rfl⟩
    case rest =>
    obtain ⟨t, rfl, HT, rfl⟩ := hcut
    -- the exponent's sign
    go_upto_if 116 with fail
    go_cut [7] (fun s7 wx => ∃ q : Nat, q ≤ len ∧ s7 = .int .i64 q ∧ Hid (scan d len i = tailx d len f q) ∧ wx = w.alloc (Form f true))
    case first =>
      cases t with
      | false =>
        go_wp2_with fail
        go_meet
        case rel => exact ⟨p + 1, by omega, by go_num, HP.out.trans (expo_bare hlt H1.out (fun q => absurd (HT.out.2 q) (by simp))), rfl⟩
      | true =>
        obtain ⟨hl1, h2⟩ := HT.out.1 rfl
        have H2 : Hid (d (p + 1) = 43 ∨ d (p + 1) = 45) := h2
        clear h2
        go_wp2_with fail
        go_meet
        case rel => exact ⟨p + 2, by omega, by go_num, HP.out.trans (expo_sign hlt H1.out hl1 H2.out), rfl⟩
    case rest =>
    obtain ⟨q, hql, rfl, HQ, rfl⟩ := hcut
    clear HP HT H1 hlt hpl
    clear p t
    by_cases hlt : q < len
    · have gj := HC.out (Form f true) q hlt
      have he : ((q : Int) == (len : Int)) = false := by simp; omega
      cases hd : dig (d q) with
      | true =>
        have HK := skip_any b off len cap d q (w.alloc (Form f true)) (by omega) hm (HC.out _)
        go_wp2_with (first | (go_at_call 23; refine (digit_yes _ _ hd).mono ?_; rintro e w' ⟨rfl, rfl⟩) | (go_at_call 24; refine HK.mono ?_; rintro e w' ⟨rfl, rfl⟩))
        go_region
        go_wp2
        exact bodyPost_ret (v := ansV (skd d len q, f, true, true)) (by simp [ansV, results, Try.results19, go_sem]) rfl ⟨ret_ans (HQ.out.trans (tailx_yes hlt hd)), ((Below.refl _ _).alloc (Nat.le_refl _) _).drew⟩
      | false =>
        go_wp2_with (first | (go_at_call 23; refine (digit_no _ _ hd).mono ?_; rintro e w' ⟨rfl, rfl⟩))
        go_region
        go_wp2
        exact bodyPost_ret (v := ansV (q, f, true, false)) (by simp [ansV, results, Try.results19, go_sem]) rfl ⟨ret_ans (HQ.out.trans (tailx_no fun _ => hd)), ((Below.refl _ _).alloc (Nat.le_refl _) _).drew⟩
    · have he : ((q : Int) == (len : Int)) = true := by simp; omega
      go_wp2_with fail
      go_region
      go_wp2
      exact bodyPost_ret (v := ansV (q, f, true, false)) (by simp [ansV, results, Try.results19, go_sem]) rfl ⟨ret_ans (HQ.out.trans (tailx_no fun r => absurd r hlt)), ((Below.refl _ _).alloc (Nat.le_refl _) _).drew⟩
end Go.Proofs.Qxb6605498a

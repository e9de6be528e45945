/-
  THE WALK OF FnHex4MatchesDigitTable (5).
-/
import Derived.Test.Qxb6605498aHex
import Derived.WalkSpells
import Derived.Deep.DeepCutAuto
namespace Go.Proofs.Qxb6605498a
open Go.RowKit Plain

theorem Try.info5h : (Try.prog.info? 5).map (fun i => (i.zero, i.size, i.bytes)) = some (some (.int .u8 0), 1, 1) := by kernel_rfl
theorem Try.size5h : (Try.prog.info? 5).map (·.size) = some 1 := by kernel_rfl
theorem bytes_row {w : World} {g n : Nat} {d : Nat → Int} (h : w.rowIs g 5 n fun k => .int .u8 (d k)) : Bytes w (some ⟨g, 0, none⟩) n d :=
  .inr ⟨g, 0, rfl, h.lt, fun k hk => by simpa using h.cell hk⟩
theorem bytes_src {w : World} {a : Option Addr} {n : Nat} {d : Nat → Int} (h : Bytes w a n d) (h0 : 0 < n) :
    ∃ b off, a = some ⟨b, off, none⟩ ∧ b < w.heap.size ∧ ∀ k, k < n → w.cell? ⟨b, off + k, none⟩ = some ((fun k => Value.int .u8 (d k)) k) := by
  rcases h with h | h
  · omega
  · exact h

theorem zz12_yes (a : Option Addr) (len cap : Nat) (i : Int) (w : World) (h : len ≤ 1048576) : Calls Try.prog 12 #[.slice a len cap, .int .i64 i] w fun e w' => e = .returned (.bool true) ∧ w = w' := by
  go_enter Try.func12, Try.ntmps12
  go_wp2
  go_ret
  exact ⟨rfl, rfl⟩
theorem zz12_no (a : Option Addr) (len cap : Nat) (i : Int) (w : World) (h : ¬ len ≤ 1048576) : Calls Try.prog 12 #[.slice a len cap, .int .i64 i] w fun e w' => e = .returned (.bool false) ∧ w = w' := by
  go_enter Try.func12, Try.ntmps12
  go_wp2
  go_ret
  exact ⟨rfl, rfl⟩

set_option maxRecDepth 20000 in
set_option maxHeartbeats 1000000 in
theorem table_core (a : Option Addr) (len cap : Nat) (d : Nat → Int) (i : Nat) (w : World) (hm : len ≤ 1048576) (hi : i ≤ 9223372036854775803) (hcap : len ≤ cap) (hcm : cap ≤ 9223372036854775807) (hb : Bytes w a len d) (hd : ∀ k, 0 ≤ d k ∧ d k ≤ 255) :
    Calls Try.prog 5 #[.slice a len cap, .int .i64 i] w fun e w' => e = .returned (.bool true) ∧ Below w.heap.size w w' := by
  have hmk := fun w => run_make_row' (P := Try.prog) 22 5 (.int .u8 0) 1 Try.underlying22 Try.info5h rfl .i64 .i64 len (by omega) (by omega) w
  have hnq := fun w => run_neq_slice_nil_any (P := Try.prog) w 22 5 a len cap 0 0 Try.underlying22
  have HB : Hid (Bytes w a len d) := hb
  have HD : Hid (∀ k, 0 ≤ d k ∧ d k ≤ 255) := hd
  clear hb hd
  go_enter Try.func5, Try.ntmps5
  go_upto_if 28 with (go_at_call 12; refine (zz12_yes _ _ _ _ _ hm).mono ?_; rintro e w' ⟨rfl, rfl⟩)
  go_cut [0] (fun s0 wx => ∃ a' c', s0 = .slice a' len c' ∧ Hid (Bytes wx a' len d) ∧ len ≤ c' ∧ c' ≤ 9223372036854775807 ∧ Below w.heap.size w wx)
  case first =>
    cases a with
    | none =>
      go_wp2_with fail
      go_meet
      case rel => exact ⟨_, _, rfl, HB, hcap, hcm, Below.refl _ _⟩
    | some x =>
      go_wp2_with (refine wpList_copy_made (by rfl) (.tmp 32) (.tmp 33) 22 22 (by rfl) 5 Try.underlying22 Try.size5h len cap _ (by rfl) (by rfl) (.int .u8 0) 5 (fun k => .int .u8 (d k)) (fun _ => rfl) (bytes_src HB.out) ?_; intro w1 HR hB1 hlt1)
      go_meet
      case rel => exact ⟨_, _, rfl, bytes_row HR.out, Nat.le_refl _, by omega, hB1⟩
  case rest =>
  obtain ⟨a', c', rfl, HB', hc1, hc2, hBx⟩ := hcut
  clear HB hmk hnq
  by_cases hn : i + 4 ≤ len
  · obtain ⟨b, off, rfl, -, hc⟩ : ∃ b off, a' = some ⟨b, off, none⟩ ∧ b < wc.heap.size ∧ ∀ k, k < len → wc.cell? ⟨b, off + k, none⟩ = some (.int .u8 (d k)) := HB'.out.resolve_left (by omega)
    have g0 := hc i (by omega)
    have g1 := hc (i + 1) (by omega)
    have g2 := hc (i + 2) (by omega)
    have g3 := hc (i + 3) (by omega)
    have k0 := hexv_any (d i) wc
    have k1 := hexv_any (d (i + 1)) wc
    have k2 := hexv_any (d (i + 2)) wc
    have k3 := hexv_any (d (i + 3)) wc
    have b0 := hexv_bd (d i)
    have b1 := hexv_bd (d (i + 1))
    have b2 := hexv_bd (d (i + 2))
    have b3 := hexv_bd (d (i + 3))
    obtain ⟨v, ok, hx⟩ : ∃ v ok, hex4 d len i = (v, ok) := ⟨_, _, rfl⟩
    have h13 := zhex_any _ len c' d i i rfl wc hi hm hc1 hc2 HB'.out HD.out v ok hx
    unfold hex4 at hx
    rw [hv4] at hx
    clear hc HB' HD
    generalize hexv (d i) = v0 at *
    generalize hexv (d (i + 1)) = v1 at *
    generalize hexv (d (i + 2)) = v2 at *
    generalize hexv (d (i + 3)) = v3 at *
    by_cases p : 0 ≤ v0 ∧ 0 ≤ v1 ∧ 0 ≤ v2 ∧ 0 ≤ v3
    · rw [if_pos ⟨hn, p⟩] at hx
      obtain ⟨rfl, rfl⟩ : v0 * 4096 + v1 * 256 + v2 * 16 + v3 = v ∧ true = ok := by simpa using hx
      clear hx
      obtain ⟨p0, p1, p2, p3⟩ := p
      go_wp2_with (first | (go_at_call 13; refine h13.mono ?_; rintro e w' ⟨rfl, rfl⟩))
      refine k0.mono ?_
      rintro e w' ⟨rfl, rfl⟩
      go_wp2_with fail
      refine k1.mono ?_
      rintro e w' ⟨rfl, rfl⟩
      go_wp2_with fail
      refine k2.mono ?_
      rintro e w' ⟨rfl, rfl⟩
      go_wp2_with fail
      refine k3.mono ?_
      rintro e w' ⟨rfl, rfl⟩
      go_wp2
      go_ret
      exact ⟨ret_bool (by simp), hBx⟩
    · rw [if_neg (fun q => p q.2)] at hx
      obtain ⟨rfl, rfl⟩ : 0 = v ∧ false = ok := by simpa using hx
      clear hx
      go_wp2_with (first | (go_at_call 13; refine h13.mono ?_; rintro e w' ⟨rfl, rfl⟩))
      refine k0.mono ?_
      rintro e w' ⟨rfl, rfl⟩
      go_wp2_with fail
      refine k1.mono ?_
      rintro e w' ⟨rfl, rfl⟩
      go_wp2_with fail
      refine k2.mono ?_
      rintro e w' ⟨rfl, rfl⟩
      go_wp2_with fail
      refine k3.mono ?_
      rintro e w' ⟨rfl, rfl⟩
      clear k0 k1 k2 k3 h13 g0 g1 g2 g3
      by_cases p0 : 0 ≤ v0
      · by_cases p1 : 0 ≤ v1
        · by_cases p2 : 0 ≤ v2
          · by_cases p3 : 0 ≤ v3
            · exact absurd ⟨p0, p1, p2, p3⟩ p
            · clear p
              go_wp2
              go_ret
              exact ⟨rfl, hBx⟩
          · clear p
            go_wp2
            go_ret
            exact ⟨rfl, hBx⟩
        · clear p
          go_wp2
          go_ret
          exact ⟨rfl, hBx⟩
      · clear p
        go_wp2
        go_ret
        exact ⟨rfl, hBx⟩
  · have h13 := zhex_any a' len c' d i i rfl wc hi hm hc1 hc2 HB'.out HD.out 0 false (hex4_short hn)
    go_wp2_with (go_at_call 13; refine h13.mono ?_; rintro e w' ⟨rfl, rfl⟩)
    go_ret
    exact ⟨rfl, hBx⟩
end Go.Proofs.Qxb6605498a

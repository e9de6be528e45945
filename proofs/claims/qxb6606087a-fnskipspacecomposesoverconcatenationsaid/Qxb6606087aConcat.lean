/-
  THE WALK OF FnSkipSpaceComposesOverConcatenation (5).
-/
import Derived.Test.Qxb6606087aAppend
import Derived.Deep.DeepCutAuto
namespace Go.Proofs.Qxb6606087a
open Go.RowKit Plain

set_option maxRecDepth 20000 in
set_option maxHeartbeats 1000000 in
theorem concat_core (pa : Option Addr) (np cp : Nat) (pd : Nat → Int) (ba : Option Addr) (nb cb : Nat) (bd : Nat → Int) (sa : Option Addr) (ns cs : Nat) (sd : Nat → Int) (i : Nat) (w : World)
    (hm : np + nb + ns ≤ 1048576) (hi : i ≤ nb) (hp : Bytes w pa np pd) (hb : Bytes w ba nb bd) (hs : Bytes w sa ns sd)
    (np0 : pa = none → np = 0 ∧ cp = 0) (nb0 : ba = none → nb = 0 ∧ cb = 0) (ns0 : sa = none → ns = 0 ∧ cs = 0) :
    Calls Try.prog 5 #[.slice pa np cp, .slice ba nb cb, .slice sa ns cs, .int .i64 i] w fun e w' => e = .returned (.bool true) ∧ Below w.heap.size w w' := by
  have hmb := fun w => run_make_row' (P := Try.prog) 22 5 (.int .u8 0) 1 Try.underlying22 Try.info5 rfl .i64 .i64 nb (by omega) (by omega) w
  have hms := fun w => run_make_row' (P := Try.prog) 22 5 (.int .u8 0) 1 Try.underlying22 Try.info5 rfl .i64 .i64 ns (by omega) (by omega) w
  have hnb := fun w => run_neq_slice_nil_any (P := Try.prog) w 22 5 ba nb cb 0 0 Try.underlying22
  have hns := fun w => run_neq_slice_nil_any (P := Try.prog) w 22 5 sa ns cs 0 0 Try.underlying22
  have HP : Hid (Bytes w pa np pd) := hp
  have HB : Hid (Bytes w ba nb bd) := hb
  have HS : Hid (Bytes w sa ns sd) := hs
  have NP : Hid (pa = none → np = 0 ∧ cp = 0) := np0
  have NB : Hid (ba = none → nb = 0 ∧ cb = 0) := nb0
  have NS : Hid (sa = none → ns = 0 ∧ cs = 0) := ns0
  clear hp hb hs np0 nb0 ns0
  go_enter Try.func5, Try.ntmps5
  go_upto_if 51 with (go_at_call 10; refine (zz10_yes _ _ _ _ _ _ _ _ _ _ _ hm).mono ?_; rintro e w' ⟨rfl, rfl⟩)
  go_cut [1] (fun s1 wx => ∃ a' c', s1 = .slice a' nb c' ∧ Hid (Bytes wx a' nb bd) ∧ Hid (a' = none → nb = 0 ∧ c' = 0) ∧ Below w.heap.size w wx)
  case first =>
    cases ba with
    | none =>
      go_wp2_with fail
      go_meet
      case rel => exact ⟨_, _, rfl, HB, (fun _ => NB.out trivial), Below.refl _ _⟩
    | some x =>
      go_wp2_with (refine wpList_copy_made (by rfl) (.tmp 55) (.tmp 56) 22 22 (by rfl) 5 Try.underlying22 Try.size5 nb cb _ (by rfl) (by rfl) (.int .u8 0) 5 (fun k => .int .u8 (bd k)) (fun _ => rfl) (bytes_src HB.out) ?_; intro w1 HR hB1 hlt1)
      go_meet
      case rel => exact ⟨_, _, rfl, bytes_row HR.out, (fun q => by cases q), hB1⟩
  case rest =>
  obtain ⟨ba', cb', rfl, HB', NB', hBx⟩ := hcut
  clear HB NB hmb hnb
  have HP1 : Hid (Bytes wc pa np pd) := bytes_later HP.out hBx
  have HS1 : Hid (Bytes wc sa ns sd) := bytes_later HS.out hBx
  have hsz := hBx.size
  clear HP HS
  go_upto_if 60 with fail
  go_cut [2] (fun s2 wx => ∃ a' c', s2 = .slice a' ns c' ∧ Hid (Bytes wx a' ns sd) ∧ Hid (a' = none → ns = 0 ∧ c' = 0) ∧ Below wc.heap.size wc wx)
  case first =>
    cases sa with
    | none =>
      go_wp2_with fail
      go_meet
      case rel => exact ⟨_, _, rfl, HS1, (fun _ => NS.out trivial), Below.refl _ _⟩
    | some x =>
      go_wp2_with (refine wpList_copy_made (by rfl) (.tmp 64) (.tmp 65) 22 22 (by rfl) 5 Try.underlying22 Try.size5 ns cs _ (by rfl) (by rfl) (.int .u8 0) 5 (fun k => .int .u8 (sd k)) (fun _ => rfl) (bytes_src HS1.out) ?_; intro w1 HR hB1 hlt1)
      go_meet
      case rel => exact ⟨_, _, rfl, bytes_row HR.out, (fun q => by cases q), hB1⟩
  case rest =>
  obtain ⟨sa', cs', rfl, HS2, NS', hBy⟩ := hcut
  have HP2 : Hid (Bytes wc pa np pd) := bytes_later HP1.out hBy
  have HB2 : Hid (Bytes wc ba' nb bd) := bytes_later HB'.out hBy
  have hBz : Below w.heap.size w wc := hBx.trans (hBy.mono hsz)
  clear HP1 HS1 HB' NS hms hns hBx hBy hsz
  obtain ⟨i0, hi5, hz0, hz1, hz2⟩ := info_parts Try.info5
  have HI : Hid (Try.prog.info? 5 = some i0) := hi5
  have HZ0 : Hid (i0.zero = some (.int .u8 0)) := hz0
  have HZ1 : Hid (i0.size = 1) := hz1
  have HZ2 : Hid (i0.bytes = 1) := hz2
  clear hi5 hz0 hz1 hz2
  have HM : Hid (i0.bytes * (np + nb + ns) ≤ 281474976710656) := by show _ ≤ _; rw [HZ2.out]; omega
  have HX : Hid (np + nb + ns ≤ maxLen) := by show _ ≤ _; unfold maxLen; omega
  go_wp2_with (first | (at_make; refine wpList_make_own _ (by rfl) (.const (.int .i64 0)) (.tmp 75) 22 (by rfl) wc.heap.size 5 i0 (.int .u8 0) 1 Try.underlying22 HI.out HZ0.out HZ1.out .i64 .i64 _ (np + nb + ns) (by rfl) (by rfl) (by omega) HM.out HX.out (Nat.le_refl _) ?_; intro w2 hown2 hgrow2; have HO2 : Hid (w2.ownsRow wc.heap.size 5 1 (.slice (some ⟨wc.heap.size, 0, none⟩) 0 (np + nb + ns)) 0 []) := hown2; have hB2 := (Below.refl wc.heap.size wc).grown hgrow2 (Nat.le_refl _) (fun k hk => by cases hk); clear hown2 hgrow2) | (at_builtin; refine wpList_append_bytes (wm := wc) _ (by rfl) (.tmp 77) (.tmp 78) 22 (by rfl) 5 i0 Try.underlying22 HI.out HZ1.out (0) (np + nb + ns) ([]) (by rfl) HO2 pa np cp pd (by rfl) HP2.out NP.out (np) (by omega) (by omega) hB2 ?_; intro w3 HO3 hB3) | (at_builtin; refine wpList_append_bytes (wm := wc) _ (by rfl) (.tmp 80) (.tmp 81) 22 (by rfl) 5 i0 Try.underlying22 HI.out HZ1.out (np) (np + nb + ns) ([] ++ row8 np pd) (by rfl) HO3 ba' nb cb' bd (by rfl) HB2.out NB'.out (np + nb) (by omega) (by omega) hB3 ?_; intro w4 HO4 hB4) | (at_builtin; refine wpList_append_bytes (wm := wc) _ (by rfl) (.tmp 83) (.tmp 84) 22 (by rfl) 5 i0 Try.underlying22 HI.out HZ1.out (np + nb) (np + nb + ns) ([] ++ row8 np pd ++ row8 nb bd) (by rfl) HO4 sa' ns cs' sd (by rfl) HS2.out NS'.out (np + nb + ns) (by omega) (by omega) hB4 ?_; intro w5 HO5 hB5))
  have HD : Hid (Bytes w5 (some ⟨wc.heap.size, 0, none⟩) (np + nb + ns) (cat3 np nb pd bd sd)) := bytes_cat (owns_lt HO5.out) HO5.out
  have h7b := zskip_any ba' nb cb' bd i i rfl w5 (by omega) (bytes_later HB2.out hB5)
  have h7s := zskip_any sa' ns cs' sd 0 0 rfl w5 (by omega) (bytes_later HS2.out hB5)
  have h7c := zskip_any _ (np + nb + ns) (np + nb + ns) (cat3 np nb pd bd sd) (np + i) ((np : Int) + (i : Int)) (by omega) w5 hm HD.out
  have r1 := sk_le bd nb i hi
  have r2 := sk_le sd ns 0 (Nat.zero_le _)
  have HL := sk_concat (cat3 np nb pd bd sd) bd sd np nb ns (fun k hk => cat3_b hk) (fun k _ => cat3_s k) i hi
  rw [HL] at h7c
  have hBf : Below w.heap.size w w5 := hBz.trans (hB5.mono hBz.size)
  obtain ⟨r, hr⟩ : ∃ r, r = sk bd nb i := ⟨_, rfl⟩
  obtain ⟨q, hq⟩ : ∃ q, q = sk sd ns 0 := ⟨_, rfl⟩
  rw [← hr] at h7b h7c r1
  rw [← hq] at h7s h7c r2
  clear hr hq HL HD hBz HO2 HO3 HO4 HO5 hB2 hB3 hB4 hB5 HP2 HB2 HS2 NP NB' NS' HI HZ0 HZ1 HZ2 HM HX
  clear w2 w3 w4 i0
  by_cases hrn : nb ≤ r
  · rw [if_pos hrn] at h7c
    go_wp2_with fail
    refine h7b.mono ?_
    rintro e w' ⟨rfl, rfl⟩
    clear h7b
    go_wp2_with fail
    refine h7s.mono ?_
    rintro e w' ⟨rfl, rfl⟩
    clear h7s
    go_wp2_with fail
    refine h7c.mono ?_
    rintro e w' ⟨rfl, rfl⟩
    clear h7c
    go_wp2
    go_ret
    exact ⟨ret_bool (by simp), hBf⟩
  · rw [if_neg hrn] at h7c
    go_wp2_with fail
    refine h7b.mono ?_
    rintro e w' ⟨rfl, rfl⟩
    clear h7b h7s
    go_wp2_with fail
    refine h7c.mono ?_
    rintro e w' ⟨rfl, rfl⟩
    clear h7c
    go_wp2
    go_ret
    exact ⟨ret_bool (by simp), hBf⟩
end Go.Proofs.Qxb6606087a

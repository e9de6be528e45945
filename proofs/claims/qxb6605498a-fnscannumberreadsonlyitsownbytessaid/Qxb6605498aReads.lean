/-
  THE WALK OF FnScanNumberReadsOnlyItsOwnBytes (4) AT A START INSIDE THE DATA.
-/
import Derived.Test.Qxb6605498aZScan
import Derived.Test.Qxb6605498aCopy
import Derived.WalkSpells
namespace Go.Proofs.Qxb6605498a
open Go.RowKit Plain

theorem Try.info5 : (Try.prog.info? 5).map (fun i => (i.zero, i.size, i.bytes)) = some (some (.int .u8 0), 1, 1) := by kernel_rfl
theorem Try.size5 : (Try.prog.info? 5).map (·.size) = some 1 := by kernel_rfl

set_option maxRecDepth 20000 in
set_option maxHeartbeats 1000000 in
theorem reads_core (b off len cap : Nat) (d : Nat → Int) (s : Nat) (w : World) (hs : s < len) (hm : len ≤ 1048576) (hb : b < w.heap.size)
    (hc : ∀ k, k < len → w.cell? ⟨b, off + k, none⟩ = some (.int .u8 (d k))) :
    Calls Try.prog 4 #[.slice (some ⟨b, off, none⟩) len cap, .int .i64 s] w fun e w' => e = .returned (.bool true) ∧ Below w.heap.size w w' := by
  have hmk := fun w => run_make_row' (P := Try.prog) 22 5 (.int .u8 0) 1 Try.underlying22 Try.info5 rfl .i64 .i64 len (by omega) (by omega) w
  have hnq := fun w => run_neq_slice_nil_any (P := Try.prog) w 22 5 (some ⟨b, off, none⟩) len cap 0 0 Try.underlying22
  obtain ⟨e1, f1, x1, k1, hA⟩ : ∃ e1 f1 x1 k1, scan d len s = (e1, f1, x1, k1) := ⟨_, _, _, _, rfl⟩
  have bd := scan_bounds d len s hs
  rw [hA] at bd
  obtain ⟨b1, b2⟩ := bd
  simp only at b1 b2
  have HC : Hid (∀ k, k < len → w.cell? ⟨b, off + k, none⟩ = some (.int .u8 (d k))) := hc
  have HA : Hid (scan d len s = (e1, f1, x1, k1)) := hA
  clear hc hA
  go_enter Try.func4, Try.ntmps4
  go_wp2_with (first | (go_at_call 11; refine (zz11_yes _ _ _ _ _ hm).mono ?_; rintro e w' ⟨rfl, rfl⟩) | (refine wpList_copy_made (by rfl) (.tmp 42) (.tmp 43) 22 22 (by rfl) 5 Try.underlying22 Try.size5 len cap _ (by rfl) (by rfl) (.int .u8 0) 5 (fun k => .int .u8 (d k)) (fun _ => rfl) (fun _ => ⟨b, off, rfl, hb, HC.out⟩) ?_; intro w1 HR hB1 hlt1))
  refine (zscan_at w.heap.size 0 len len d s _ rfl w1 hs hm hlt1 (fun k hk => by simpa using HR.out.cell hk) e1 f1 x1 k1 HA.out).mono ?_
  rintro e w2 ⟨rfl, hB2⟩
  have HR2 : Hid (w2.rowIs w.heap.size 5 len fun k => .int .u8 (d k)) := rowIs_below HR.out hB2 hlt1
  have hlt2 : w.heap.size < w2.heap.size := by have := hB2.size; omega
  have cs : w2.cell? ⟨w.heap.size, s, none⟩ = some (.int .u8 (d s)) := HR2.out.cell hs
  have hB12 : Below w.heap.size w w2 := hB1.trans (hB2.mono (by omega))
  clear hB1 hB2 HR hlt1 hmk hnq HC hb
  clear w1
  obtain ⟨e2, he2⟩ : ∃ e2, e2 + s = e1 := ⟨e1 - s, by omega⟩
  have H2 : Hid (scan (fun k => d (s + k)) (len - s) 0 = (e2, f1, x1, k1)) := by
    have := scan_shift d len s hs
    rw [HA.out] at this
    unfold moved at this
    have q1 := congrArg Prod.fst this
    have q2 := congrArg Prod.snd this
    simp only at q1 q2
    exact Prod.ext (by simp only; omega) q2
  have hne : ((e2 : Int) + (s : Int) != (e1 : Int)) = false := by simp; omega
  by_cases h45 : d s = 45
  · have hgt : s < e1 := by have := scan_moves d len s hs (.inl h45); rw [HA.out] at this; exact this
    cases k1 with
    | false =>
      go_wp2_with fail
      refine (zscan_at w.heap.size s (len - s) (len - s) (fun k => d (s + k)) 0 0 rfl w2 (by omega) (by omega) hlt2 (fun k hk => HR2.out.cell (by omega)) _ _ _ _ H2.out).mono ?_
      rintro e w3 ⟨rfl, hB3⟩
      have hB13 : Below w.heap.size w w3 := hB12.trans (hB3.mono (by omega))
      have HR3 : Hid (w3.rowIs w.heap.size 5 len fun k => .int .u8 (d k)) := rowIs_below HR2.out hB3 hlt2
      have hlt3 : w.heap.size < w3.heap.size := by have := hB3.size; omega
      clear hB12 hB3 HR2 hlt2 cs
      clear w2
      go_wp2
      go_ret
      exact ⟨rfl, hB13⟩
    | true =>
      have H3 : Hid (scan d e1 s = (e1, f1, x1, true)) := by have := scan_cut d len s hs (by rw [HA.out]); rw [HA.out] at this; exact this
      go_wp2_with fail
      refine (zscan_at w.heap.size s (len - s) (len - s) (fun k => d (s + k)) 0 0 rfl w2 (by omega) (by omega) hlt2 (fun k hk => HR2.out.cell (by omega)) _ _ _ _ H2.out).mono ?_
      rintro e w3 ⟨rfl, hB3⟩
      have hB13 : Below w.heap.size w w3 := hB12.trans (hB3.mono (by omega))
      have HR3 : Hid (w3.rowIs w.heap.size 5 len fun k => .int .u8 (d k)) := rowIs_below HR2.out hB3 hlt2
      have hlt3 : w.heap.size < w3.heap.size := by have := hB3.size; omega
      clear hB12 hB3 HR2 hlt2 cs
      clear w2
      go_wp2_with fail
      refine (zscan_at w.heap.size 0 e1 len d s _ rfl w3 hgt (by omega) hlt3 (fun k hk => by simpa using HR3.out.cell (by omega)) _ _ _ _ H3.out).mono ?_
      rintro e w4 ⟨rfl, hB4⟩
      have hB14 : Below w.heap.size w w4 := hB13.trans (hB4.mono (by omega))
      go_wp2
      go_ret
      exact ⟨rfl, hB14⟩
  · by_cases h48 : 48 ≤ d s
    · by_cases h57 : d s ≤ 57
      · have hgt : s < e1 := by have := scan_moves d len s hs (.inr (by rw [dig_iff]; omega)); rw [HA.out] at this; exact this
        cases k1 with
        | false =>
          go_wp2_with fail
          refine (zscan_at w.heap.size s (len - s) (len - s) (fun k => d (s + k)) 0 0 rfl w2 (by omega) (by omega) hlt2 (fun k hk => HR2.out.cell (by omega)) _ _ _ _ H2.out).mono ?_
          rintro e w3 ⟨rfl, hB3⟩
          have hB13 : Below w.heap.size w w3 := hB12.trans (hB3.mono (by omega))
          have HR3 : Hid (w3.rowIs w.heap.size 5 len fun k => .int .u8 (d k)) := rowIs_below HR2.out hB3 hlt2
          have hlt3 : w.heap.size < w3.heap.size := by have := hB3.size; omega
          clear hB12 hB3 HR2 hlt2 cs
          clear w2
          go_wp2
          go_ret
          exact ⟨rfl, hB13⟩
        | true =>
          have H3 : Hid (scan d e1 s = (e1, f1, x1, true)) := by have := scan_cut d len s hs (by rw [HA.out]); rw [HA.out] at this; exact this
          go_wp2_with fail
          refine (zscan_at w.heap.size s (len - s) (len - s) (fun k => d (s + k)) 0 0 rfl w2 (by omega) (by omega) hlt2 (fun k hk => HR2.out.cell (by omega)) _ _ _ _ H2.out).mono ?_
          rintro e w3 ⟨rfl, hB3⟩
          have hB13 : Below w.heap.size w w3 := hB12.trans (hB3.mono (by omega))
          have HR3 : Hid (w3.rowIs w.heap.size 5 len fun k => .int .u8 (d k)) := rowIs_below HR2.out hB3 hlt2
          have hlt3 : w.heap.size < w3.heap.size := by have := hB3.size; omega
          clear hB12 hB3 HR2 hlt2 cs
          clear w2
          go_wp2_with fail
          refine (zscan_at w.heap.size 0 e1 len d s _ rfl w3 hgt (by omega) hlt3 (fun k hk => by simpa using HR3.out.cell (by omega)) _ _ _ _ H3.out).mono ?_
          rintro e w4 ⟨rfl, hB4⟩
          have hB14 : Below w.heap.size w w4 := hB13.trans (hB4.mono (by omega))
          go_wp2
          go_ret
          exact ⟨rfl, hB14⟩
      · have hq := scan_refused d len s h45 (by rw [dig_not]; omega)
        rw [HA.out] at hq
        obtain ⟨q1, q2, q3, q4⟩ : e1 = s ∧ f1 = false ∧ x1 = false ∧ k1 = false := by simpa using hq
        clear hq
        subst q2 q3 q4
        have hes : ((e1 : Int) != (s : Int)) = false := by simp; omega
        have HQ : Hid (e1 = s) := q1
        clear q1
        have n45 : (d s != 45) = true := by simpa using h45
        have n57 : decide (d s ≤ 57) = false := by simpa using h57
        go_wp2_with fail
        refine (zscan_at w.heap.size s (len - s) (len - s) (fun k => d (s + k)) 0 0 rfl w2 (by omega) (by omega) hlt2 (fun k hk => HR2.out.cell (by omega)) _ _ _ _ H2.out).mono ?_
        rintro e w3 ⟨rfl, hB3⟩
        have hB13 : Below w.heap.size w w3 := hB12.trans (hB3.mono (by omega))
        have HR3 : Hid (w3.rowIs w.heap.size 5 len fun k => .int .u8 (d k)) := rowIs_below HR2.out hB3 hlt2
        have hlt3 : w.heap.size < w3.heap.size := by have := hB3.size; omega
        clear hB12 hB3 HR2 hlt2 cs
        clear w2
        go_wp2
        go_ret
        exact ⟨rfl, hB13⟩
    · have hq := scan_refused d len s h45 (by rw [dig_not]; omega)
      rw [HA.out] at hq
      obtain ⟨q1, q2, q3, q4⟩ : e1 = s ∧ f1 = false ∧ x1 = false ∧ k1 = false := by simpa using hq
      clear hq
      subst q2 q3 q4
      have hes : ((e1 : Int) != (s : Int)) = false := by simp; omega
      have HQ : Hid (e1 = s) := q1
      clear q1
      go_wp2_with fail
      refine (zscan_at w.heap.size s (len - s) (len - s) (fun k => d (s + k)) 0 0 rfl w2 (by omega) (by omega) hlt2 (fun k hk => HR2.out.cell (by omega)) _ _ _ _ H2.out).mono ?_
      rintro e w3 ⟨rfl, hB3⟩
      have hB13 : Below w.heap.size w w3 := hB12.trans (hB3.mono (by omega))
      have HR3 : Hid (w3.rowIs w.heap.size 5 len fun k => .int .u8 (d k)) := rowIs_below HR2.out hB3 hlt2
      have hlt3 : w.heap.size < w3.heap.size := by have := hB3.size; omega
      clear hB12 hB3 HR2 hlt2 cs
      clear w2
      go_wp2
      go_ret
      exact ⟨rfl, hB13⟩
end Go.Proofs.Qxb6605498a

/-
  THE WALK OF FnScanNumberMatchesAutomaton (3) AT A START INSIDE THE DATA.
-/
import Derived.Test.Qxb6605498aZScan
import Derived.Test.Qxb6605498aAuto
import Derived.Test.Qxb6605498aCopy
import Derived.WalkSpells
namespace Go.Proofs.Qxb6605498a
open Go.RowKit Plain

theorem Try.info5m : (Try.prog.info? 5).map (fun i => (i.zero, i.size, i.bytes)) = some (some (.int .u8 0), 1, 1) := by kernel_rfl
theorem Try.size5m : (Try.prog.info? 5).map (·.size) = some 1 := by kernel_rfl

theorem auto_at (b off len cap : Nat) (d : Nat → Int) (i : Nat) (w : World) (hi : i < len) (hm : len ≤ 1048576)
    (hc : ∀ k, k < len → w.cell? ⟨b, off + k, none⟩ = some (.int .u8 (d k))) (e0 : Nat) (f x k : Bool) (hA : scan d len i = (e0, f, x, k)) :
    Calls Try.prog 10 #[.slice (some ⟨b, off, none⟩) len cap, .int .i64 i] w fun e w' => e = .returned (.tuple #[.int .i64 e0, .bool f, .bool x, .bool k]) ∧ w' = w := by
  have h := auto_any b off len cap d i w (by omega) hm hc
  rw [run_scan d len i hi, hA] at h
  exact h

set_option maxRecDepth 20000 in
set_option maxHeartbeats 1000000 in
theorem matches_core (b off len cap : Nat) (d : Nat → Int) (s : Nat) (w : World) (hs : s < len) (hm : len ≤ 1048576) (hb : b < w.heap.size)
    (hc : ∀ k, k < len → w.cell? ⟨b, off + k, none⟩ = some (.int .u8 (d k))) :
    Calls Try.prog 3 #[.slice (some ⟨b, off, none⟩) len cap, .int .i64 s] w fun e w' => e = .returned (.bool true) ∧ Below w.heap.size w w' := by
  have hmk := fun w => run_make_row' (P := Try.prog) 22 5 (.int .u8 0) 1 Try.underlying22 Try.info5m rfl .i64 .i64 len (by omega) (by omega) w
  have hnq := fun w => run_neq_slice_nil_any (P := Try.prog) w 22 5 (some ⟨b, off, none⟩) len cap 0 0 Try.underlying22
  obtain ⟨e1, f1, x1, k1, hA⟩ : ∃ e1 f1 x1 k1, scan d len s = (e1, f1, x1, k1) := ⟨_, _, _, _, rfl⟩
  have HC : Hid (∀ k, k < len → w.cell? ⟨b, off + k, none⟩ = some (.int .u8 (d k))) := hc
  have HA : Hid (scan d len s = (e1, f1, x1, k1)) := hA
  clear hc hA
  go_enter Try.func3, Try.ntmps3
  go_wp2_with (first | (go_at_call 8; refine (zz8_yes _ _ _ _ _ hm).mono ?_; rintro e w' ⟨rfl, rfl⟩) | (refine wpList_copy_made (by rfl) (.tmp 34) (.tmp 35) 22 22 (by rfl) 5 Try.underlying22 Try.size5m len cap _ (by rfl) (by rfl) (.int .u8 0) 5 (fun k => .int .u8 (d k)) (fun _ => rfl) (fun _ => ⟨b, off, rfl, hb, HC.out⟩) ?_; intro w1 HR hB1 hlt1))
  refine (zscan_at w.heap.size 0 len len d s _ rfl w1 hs hm hlt1 (fun k hk => by simpa using HR.out.cell hk) e1 f1 x1 k1 HA.out).mono ?_
  rintro e w2 ⟨rfl, hB2⟩
  have HR2 : Hid (w2.rowIs w.heap.size 5 len fun k => .int .u8 (d k)) := rowIs_below HR.out hB2 hlt1
  have hB12 : Below w.heap.size w w2 := hB1.trans (hB2.mono (by omega))
  clear hB1 hB2 HR hlt1 hmk hnq HC hb
  clear w1
  go_wp2_with fail
  refine (auto_at w.heap.size 0 len len d s w2 hs hm (fun k hk => by simpa using HR2.out.cell hk) e1 f1 x1 k1 HA.out).mono ?_
  rintro e w3 ⟨rfl, rfl⟩
  go_wp2
  go_ret
  exact ⟨rfl, hB12⟩
end Go.Proofs.Qxb6605498a

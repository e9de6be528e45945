/-
  THE WALK OF FnHex4ReadsBackWhatIsWritten (6).
-/
import Derived.Test.Qxb6605498aHex
import Derived.Test.Qxb6605498aBackPlain
import Derived.WalkSpells
import Derived.Deep.DeepCutAuto
import Derived.Deep.CutBlock
namespace Go.Proofs.Qxb6605498a
open Go.RowKit Plain

theorem Try.info5b : (Try.prog.info? 5).map (fun i => (i.zero, i.size, i.bytes)) = some (some (.int .u8 0), 1, 1) := by kernel_rfl

/-- hexDigitByte (16). -/
theorem dgt_any (d : Int) (u : Bool) (w : World) (h0 : 0 ≤ d) (h1 : d ≤ 15) : Calls Try.prog 16 #[.int .i64 d, .bool u] w fun e w' => ∃ x, e = .returned (.int .u8 x) ∧ hexv x = d ∧ 0 ≤ x ∧ x ≤ 255 ∧ w = w' := by
  have hd := dgt_hex u h0 h1
  unfold dgt at hd
  by_cases h : d < 10
  · rw [if_pos h] at hd
    have HD : Hid (hexv (48 + d) = d ∧ 0 ≤ 48 + d ∧ 48 + d ≤ 255) := hd
    clear hd
    go_enter Try.func16, Try.ntmps16
    go_wp2
    go_ret
    exact ⟨_, rfl, HD.out.1, HD.out.2.1, HD.out.2.2, rfl⟩
  · rw [if_neg h] at hd
    cases u
    · rw [if_neg (by simp)] at hd
      have HD : Hid (hexv (87 + d) = d ∧ 0 ≤ 87 + d ∧ 87 + d ≤ 255) := hd
      clear hd
      have e : 97 + d - 10 = 87 + d := by omega
      have HE : Hid (97 + d - 10 = 87 + d) := e
      clear e
      go_enter Try.func16, Try.ntmps16
      go_wp2
      go_ret
      exact ⟨_, rfl, by rw [HE.out]; exact HD.out.1, by omega, by omega, rfl⟩
    · rw [if_pos rfl] at hd
      have HD : Hid (hexv (55 + d) = d ∧ 0 ≤ 55 + d ∧ 55 + d ≤ 255) := hd
      clear hd
      have e : 65 + d - 10 = 55 + d := by omega
      have HE : Hid (65 + d - 10 = 55 + d) := e
      clear e
      go_enter Try.func16, Try.ntmps16
      go_wp2
      go_ret
      exact ⟨_, rfl, by rw [HE.out]; exact HD.out.1, by omega, by omega, rfl⟩

theorem zz15_yes (n m : Int) (a b : Option Addr) (np cp nt ct : Nat) (w : World) (h : np + nt ≤ 1048576) : Calls Try.prog 15 #[.int .u16 n, .int .u8 m, .slice a np cp, .slice b nt ct] w fun e w' => e = .returned (.bool true) ∧ w = w' := by
  go_enter Try.func15, Try.ntmps15
  go_wp2
  go_ret
  exact ⟨rfl, rfl⟩
theorem zz15_no (n m : Int) (a b : Option Addr) (np cp nt ct : Nat) (w : World) (h : ¬ np + nt ≤ 1048576) : Calls Try.prog 15 #[.int .u16 n, .int .u8 m, .slice a np cp, .slice b nt ct] w fun e w' => e = .returned (.bool false) ∧ w = w' := by
  by_cases h1 : np ≤ 1048576
  · by_cases h2 : nt ≤ 1048576
    · go_enter Try.func15, Try.ntmps15
      go_wp2
      go_ret
      exact ⟨rfl, rfl⟩
    · go_enter Try.func15, Try.ntmps15
      go_wp2
      go_ret
      exact ⟨rfl, rfl⟩
  · go_enter Try.func15, Try.ntmps15
    go_wp2
    go_ret
    exact ⟨rfl, rfl⟩

/-- A row of bytes of the call's own. -/
def Row8 (w : World) (g N : Nat) (f : Nat → Int) : Prop := w.rowIs g 5 N (fun j => .int .u8 (f j))
theorem row8_put {w : World} {g N : Nat} {f : Nat → Int} (h : Row8 w g N f) (i : Nat) (x : Int) : Row8 (w.setCell ⟨g, i, none⟩ (.int .u8 x)) g N (put f i x) := by
  refine (World.rowIs.set h i (.int .u8 x)).congr ?_
  intro j _
  unfold put
  by_cases e : j = i
  · simp [e]
  · simp [e]

theorem bytes_src2 {w w' : World} {a : Option Addr} {n : Nat} {d : Nat → Int} (h : Bytes w a n d) (hB : Below w.heap.size w w') (h0 : 0 < n) :
    ∃ b off, a = some ⟨b, off, none⟩ ∧ ∀ k, k < n → w'.cell? ⟨b, off + k, none⟩ = some (.int .u8 (d k)) := by
  rcases h with h | ⟨b, off, rfl, hb, hc⟩
  · omega
  · exact ⟨b, off, rfl, fun k hk => (hB.cell (p := ⟨b, off + k, none⟩) hb).trans (hc k hk)⟩

set_option maxRecDepth 20000 in
set_option maxHeartbeats 1000000 in
theorem back_core (nn : Nat) (cm : Int) (pa : Option Addr) (np cp : Nat) (pd : Nat → Int) (ta : Option Addr) (nt ct : Nat) (td : Nat → Int) (w : World)
    (hm : np + nt ≤ 1048576) (hnn : nn ≤ 65535) (_hc0 : 0 ≤ cm) (_hc1 : cm ≤ 255) (hp : Bytes w pa np pd) (ht : Bytes w ta nt td) (hpd : Fits pd) (htd : Fits td) :
    Calls Try.prog 6 #[.int .u16 nn, .int .u8 cm, .slice pa np cp, .slice ta nt ct] w fun e w' => e = .returned (.bool true) ∧ Below w.heap.size w w' := by
  have hmk : ∀ w, (Instr.makeSlice 22 (.int .i64 ((np : Int) + 4 + (nt : Int))) (.int .i64 ((np : Int) + 4 + (nt : Int)))).run Try.prog w = .ok (.slice (some ⟨w.heap.size, 0, none⟩) (np + 4 + nt) (np + 4 + nt)) (w.alloc (.cells (madeCells #[.int .u8 0] (np + 4 + nt)) 5)) := by
    intro w
    have := run_make_row' (P := Try.prog) 22 5 (.int .u8 0) 1 Try.underlying22 Try.info5b rfl .i64 .i64 (np + 4 + nt) (by omega) (by omega) w
    rw [show (((np + 4 + nt : Nat)) : Int) = (np : Int) + 4 + (nt : Int) by omega] at this
    exact this
  have HP : Hid (Bytes w pa np pd) := hp
  have HT : Hid (Bytes w ta nt td) := ht
  have FP : Hid (Fits pd) := hpd
  have FT : Hid (Fits td) := htd
  clear hp ht hpd htd
  have R0 : Hid (Row8 (w.alloc (.cells (madeCells #[.int .u8 0] (np + 4 + nt)) 5)) w.heap.size (np + 4 + nt) (fun _ => 0)) := World.rowIs_made w (.int .u8 0) (np + 4 + nt) 5
  have q1 : decide ((1048576 : Int) < (np : Int)) = false := decide_eq_false (by omega)
  have q2 : decide ((1048576 : Int) < (nt : Int)) = false := decide_eq_false (by omega)
  have q3 : decide ((1048576 : Int) < (np : Int) + (nt : Int)) = false := decide_eq_false (by omega)
  go_enter Try.func6, Try.ntmps6
  -- the bytes ahead of the digits
  go_upto_block 0 with (go_at_call 15; refine (zz15_yes _ _ _ _ _ _ _ _ _ hm).mono ?_; rintro e w' ⟨rfl, rfl⟩)
  go_cut [] (fun wx => ∃ f, Hid (Row8 wx w.heap.size (np + 4 + nt) f) ∧ Hid (Fits f) ∧ Below w.heap.size w wx)
  case first =>
    go_wp2_with fail
    go_loopw [11] (fun s11 wr => ∃ (k : Nat) (f : Nat → Int), k ≤ np ∧ s11 = .int .i64 k ∧ Hid (Row8 wr w.heap.size (np + 4 + nt) f) ∧ Hid (Fits f) ∧ Below w.heap.size w wr) (fun s11 _ => np - (intOf s11).toNat)
    case atStart => exact ⟨0, _, by omega, rfl, R0, (fun _ => by simp), (Below.refl _ _).alloc (Nat.le_refl _) _⟩
    case round =>
      obtain ⟨k, f, hk, rfl, HR, HF, hB⟩ := hrel
      by_cases hlt : k < np
      · have hy := bytes_src2 HP.out hB (by omega)
        obtain ⟨b, off, rfl, hc⟩ := hy
        have g := hc k hlt
        have g2 := HR.out.cell (i := k) (by omega)
        have g3 := HR.out.frozen k
        clear hc
        go_wp2_with fail
        go_roundw
        case rel => exact ⟨k + 1, _, by omega, by go_num, row8_put HR.out k (pd k), put_fits HF.out (FP.out k).1 (FP.out k).2, hB.setCell (Nat.le_refl _) _⟩
        case measure => simp [intOf]; omega
      · go_wp2_with fail
        go_meet
        case rel => exact ⟨f, HR, HF, hB⟩
  case rest =>
  obtain ⟨f0, HR0, HF0, hB0⟩ := hcut
  clear HP FP R0 hmk q1 q2 q3
  -- the four digits
  go_upto_block 2 with fail
  go_cut [] (fun wx => ∃ f, Hid (Row8 wx w.heap.size (np + 4 + nt) f) ∧ Hid (Fits f) ∧ Hid (Last f np nn 4) ∧ Below w.heap.size w wx)
  case first =>
    go_wp2_with fail
    go_loopw [12, 13] (fun s12 s13 wr => ∃ (m : Nat) (v : Nat) (f : Nat → Int), m ≤ 4 ∧ s13 = .int .i64 (3 - (m : Int)) ∧ s12 = .int .i64 v ∧ v ≤ 65535 ∧ Hid (v = nn / 16 ^ m) ∧ Hid (Row8 wr w.heap.size (np + 4 + nt) f) ∧ Hid (Fits f) ∧ Hid (Last f np nn m) ∧ Below w.heap.size w wr) (fun _ s13 _ => (intOf s13 + 1).toNat)
    case atStart => exact ⟨0, nn, f0, by omega, rfl, rfl, hnn, by simp [Hid], HR0, HF0, last_none _ _ _, hB0⟩
    case round =>
      obtain ⟨m, v, f, hm4, rfl, rfl, hv, HV, HR, HF, HL, hB⟩ := hrel
      by_cases hlt : m < 4
      · have g2 := HR.out.cell (i := np + (3 - m)) (by omega)
        have g3 := HR.out.frozen (np + (3 - m))
        rcases (show m = 0 ∨ m = 1 ∨ m = 2 ∨ m = 3 by omega) with rfl | rfl | rfl | rfl
        · go_wp2_with (go_at_call 16; refine (dgt_any _ _ _ (by omega) (by omega)).mono ?_; rintro e w' ⟨x, rfl, hx, hx0, hx1, rfl⟩)
          go_roundw
          case rel => exact ⟨1, v / 16, _, by omega, val_i64 (by omega), val_i64 (by omega), by omega, div_next HV.out, row8_put HR.out (np + 3) x, put_fits HF.out hx0 hx1, last_put HL.out (by omega) (dig_of HV.out hx), hB.setCell (Nat.le_refl _) _⟩
          case measure => simp [intOf]
        · go_wp2_with (go_at_call 16; refine (dgt_any _ _ _ (by omega) (by omega)).mono ?_; rintro e w' ⟨x, rfl, hx, hx0, hx1, rfl⟩)
          go_roundw
          case rel => exact ⟨2, v / 16, _, by omega, val_i64 (by omega), val_i64 (by omega), by omega, div_next HV.out, row8_put HR.out (np + 2) x, put_fits HF.out hx0 hx1, last_put HL.out (by omega) (dig_of HV.out hx), hB.setCell (Nat.le_refl _) _⟩
          case measure => simp [intOf]
        · go_wp2_with (go_at_call 16; refine (dgt_any _ _ _ (by omega) (by omega)).mono ?_; rintro e w' ⟨x, rfl, hx, hx0, hx1, rfl⟩)
          go_roundw
          case rel => exact ⟨3, v / 16, _, by omega, val_i64 (by omega), val_i64 (by omega), by omega, div_next HV.out, row8_put HR.out (np + 1) x, put_fits HF.out hx0 hx1, last_put HL.out (by omega) (dig_of HV.out hx), hB.setCell (Nat.le_refl _) _⟩
          case measure => simp [intOf]
        · have g4 := HR.out.cell (i := np) (by omega)
          have g5 := HR.out.frozen np
          go_wp2_with (go_at_call 16; refine (dgt_any _ _ _ (by omega) (by omega)).mono ?_; rintro e w' ⟨x, rfl, hx, hx0, hx1, rfl⟩)
          go_roundw
          case rel => exact ⟨4, v / 16, _, by omega, val_i64 (by omega), val_i64 (by omega), by omega, div_next HV.out, row8_put HR.out np x, put_fits HF.out hx0 hx1, last_put HL.out (by omega) (dig_of HV.out hx), hB.setCell (Nat.le_refl _) _⟩
          case measure => simp [intOf]
      · obtain rfl : m = 4 := by omega
        go_wp2_with fail
        go_meet
        case rel => exact ⟨f, HR, HF, HL, hB⟩
  case rest =>
  obtain ⟨f1, HR1, HF1, HL1, hB1⟩ := hcut
  clear HR0 HF0 hB0
  clear f0
  -- the tail
  go_upto_block 4 with fail
  go_cut [] (fun wx => ∃ f, Hid (Row8 wx w.heap.size (np + 4 + nt) f) ∧ Hid (Fits f) ∧ Hid (Last f np nn 4) ∧ Below w.heap.size w wx)
  case first =>
    go_wp2_with fail
    go_loopw [16] (fun s16 wr => ∃ (k : Nat) (f : Nat → Int), k ≤ nt ∧ s16 = .int .i64 k ∧ Hid (Row8 wr w.heap.size (np + 4 + nt) f) ∧ Hid (Fits f) ∧ Hid (Last f np nn 4) ∧ Below w.heap.size w wr) (fun s16 _ => nt - (intOf s16).toNat)
    case atStart => exact ⟨0, _, by omega, rfl, HR1, HF1, HL1, hB1⟩
    case round =>
      obtain ⟨k, f, hk, rfl, HR, HF, HL, hB⟩ := hrel
      by_cases hlt : k < nt
      · have hy := bytes_src2 HT.out hB (by omega)
        obtain ⟨b, off, rfl, hc⟩ := hy
        have g := hc k hlt
        have g2 := HR.out.cell (i := np + 4 + k) (by omega)
        have g3 := HR.out.frozen (np + 4 + k)
        clear hc
        go_wp2_with fail
        go_roundw
        case rel => exact ⟨k + 1, _, by omega, by go_num, row8_put HR.out (np + 4 + k) (td k), put_fits HF.out (FT.out k).1 (FT.out k).2, last_other HL.out (by omega) _, hB.setCell (Nat.le_refl _) _⟩
        case measure => simp [intOf]; omega
      · go_wp2_with fail
        go_meet
        case rel => exact ⟨f, HR, HF, HL, hB⟩
  case rest =>
  obtain ⟨f2, HR2, HF2, HL2, hB2⟩ := hcut
  clear HR1 HF1 HL1 hB1 HT FT
  clear f1
  have HB : Hid (∀ n, n ≤ np + 4 + nt → Bytes wc (some ⟨w.heap.size, 0, none⟩) n f2) := fun n hn => .inr ⟨w.heap.size, 0, rfl, World.rowIs.lt HR2.out, fun k hk => by simpa using World.rowIs.cell HR2.out (i := k) (by omega)⟩
  have h13 := zhex_any (some ⟨w.heap.size, 0, none⟩) (np + 4 + nt) (np + 4 + nt) f2 np np rfl wc (by omega) (Nat.le_refl _) (by omega) (HB.out _ (Nat.le_refl _)) HF2.out nn true (last_reads HL2.out hnn (by omega))
  have h13s := zhex_any (some ⟨w.heap.size, 0, none⟩) (np + 3) (np + 4 + nt) f2 np np rfl wc (by omega) (by omega) (by omega) (HB.out _ (by omega)) HF2.out 0 false (hex4_short (by omega))
  clear HR2 HF2 HL2 HB
  go_wp2_with fail
  refine h13.mono ?_
  rintro e w' ⟨rfl, rfl⟩
  clear h13
  go_wp2_with fail
  refine h13s.mono ?_
  rintro e w'' ⟨rfl, rfl⟩
  clear h13s
  go_wp2
  go_ret
  exact ⟨rfl, hB2⟩
end Go.Proofs.Qxb6605498a

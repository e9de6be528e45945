/-
  WHAT THE THREE LAWS SHARE: the facts that a walk over 'if b != nil { zzc := make([]byte, len(b)); copy(zzc, b); b = zzc }' wants.
-/
import Derived.Test.Qxb6606087aSkip
import Derived.WalkSpells
namespace Go.Proofs.Qxb6606087a
open Go.RowKit Plain

theorem Try.info5 : (Try.prog.info? 5).map (fun i => (i.zero, i.size, i.bytes)) = some (some (.int .u8 0), 1, 1) := by kernel_rfl
theorem Try.size5 : (Try.prog.info? 5).map (·.size) = some 1 := by kernel_rfl
/-- A row of the call's own, as a slice of bytes. -/
theorem bytes_row {w : World} {g n : Nat} {d : Nat → Int} (h : w.rowIs g 5 n fun k => .int .u8 (d k)) : Bytes w (some ⟨g, 0, none⟩) n d :=
  .inr ⟨g, 0, rfl, h.lt, fun k hk => by simpa using h.cell hk⟩
/-- A slice that came in, in a later world. -/
theorem bytes_later {w w' : World} {a : Option Addr} {n : Nat} {d : Nat → Int} (h : Bytes w a n d) (hB : Below w.heap.size w w') : Bytes w' a n d := by
  rcases h with h | ⟨b, off, rfl, hb, hc⟩
  · exact .inl h
  · exact .inr ⟨b, off, rfl, by have := hB.size; omega, fun k hk => (hB.cell (p := ⟨b, off + k, none⟩) hb).trans (hc k hk)⟩
/-- The source of a copy, out of 'Bytes'. -/
theorem bytes_src {w : World} {a : Option Addr} {n : Nat} {d : Nat → Int} (h : Bytes w a n d) (h0 : 0 < n) :
    ∃ b off, a = some ⟨b, off, none⟩ ∧ b < w.heap.size ∧ ∀ k, k < n → w.cell? ⟨b, off + k, none⟩ = some ((fun k => Value.int .u8 (d k)) k) := by
  rcases h with h | h
  · omega
  · exact h
end Go.Proofs.Qxb6606087a

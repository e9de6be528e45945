/-
  'c := make([]byte, 0, n); c = append(c, p...)', p whatever slice of bytes was there: one law for an append that fits.
-/
import Derived.Test.Qxb6606087aCopied
import Derived.OwnWalk
namespace Go.Proofs.Qxb6606087a
open Go.RowKit Plain

/-- The cells of n bytes. -/
def row8 (n : Nat) (d : Nat → Int) : List Value := (List.range n).map fun k => .int .u8 (d k)
theorem row8_length (n : Nat) (d : Nat → Int) : (row8 n d).length = n := by simp [row8]
theorem row8_at {n : Nat} {d : Nat → Int} {j : Nat} (h : j < n) : (row8 n d)[j]? = some (.int .u8 (d j)) := by simp [row8, List.getElem?_map, List.getElem?_range h]

theorem wpList_append_bytes {P : Program} {wm : World} (w : World) {ops : Array Oper} {rest : List Oper} {o : Oper} {a : Act} {Q : Exit → Act → World → Prop}
    (hg : o.guard = none) (s x : Operand) (t : TypeId) (hop : o.op = Op.call { callee := Callee.builtin Builtin.append, args := #[s, x], argTypes := #[t, t] })
    (e : TypeId) (i : TypeInfo) (h1 : P.underlying t = some (.slice e)) (h2 : P.info? e = some i) (h4 : i.size = 1)
    (k cap : Nat) (xs : List Value) (hs : a.eval s = .slice (some ⟨wm.heap.size, 0, none⟩) k cap) (hown : Hid (w.ownsRow wm.heap.size e 1 (.slice (some ⟨wm.heap.size, 0, none⟩) k cap) k xs))
    (ao : Option Addr) (m c : Nat) (d : Nat → Int) (hx : a.eval x = .slice ao m c) (hb : Bytes wm ao m d) (hnil : ao = none → m = 0 ∧ c = 0) (kk : Nat) (hkk : k + m = kk) (b1 : kk ≤ cap) (hB : Below wm.heap.size wm w)
    (hK : ∀ w', Hid (w'.ownsRow wm.heap.size e 1 (.slice (some ⟨wm.heap.size, 0, none⟩) kk cap) kk (xs ++ row8 m d)) → Below wm.heap.size wm w' → wpList P ops Q rest (a.put o.dst (.slice (some ⟨wm.heap.size, 0, none⟩) kk cap)) w') :
    wpList P ops Q (o :: rest) a w := by
  subst hkk
  have hb' := bytes_later hb hB
  refine wpList_append_fits_any w hg s x t hop wm.heap.size e i 1 h1 h2 h4 wm.heap.size k cap xs hs hown.out ao m c (row8 m d) hx (by simp [row8_length]) hnil ?_ ?_ b1 ?_
  · intro ad had j u hj
    have hjm : j < m := by
      have := (List.getElem?_eq_some_iff.1 hj).1
      rwa [row8_length] at this
    rw [row8_at hjm] at hj
    cases hj
    rcases hb' with h0 | ⟨b, off, rfl, _, hc⟩
    · omega
    · cases had
      have e : (⟨b, off, none⟩ : Addr).add j = ⟨b, off + j, none⟩ := by simp [Addr.add]
      rw [e]
      exact hc j hjm
  · intro u hu
    obtain ⟨q, _, rfl⟩ := List.mem_map.1 hu
    rfl
  · intro w' hown' hgrow
    exact hK w' hown' (hB.grown hgrow hB.size (fun q hq => by cases hq; exact Nat.le_refl _))

/-- Three rows behind one another. -/
def cat3 (np nb : Nat) (p b s : Nat → Int) (k : Nat) : Int := if k < np then p k else if k < np + nb then b (k - np) else s (k - (np + nb))
theorem cat3_b {np nb : Nat} {p b s : Nat → Int} {k : Nat} (h : k < nb) : cat3 np nb p b s (np + k) = b k := by
  unfold cat3
  rw [if_neg (by omega), if_pos (by omega)]
  congr 1; omega
theorem cat3_s {np nb : Nat} {p b s : Nat → Int} (k : Nat) : cat3 np nb p b s (np + nb + k) = s k := by
  unfold cat3
  rw [if_neg (by omega), if_neg (by omega)]
  congr 1; omega
theorem cat3_at (np nb ns : Nat) (p b s : Nat → Int) (j : Nat) (h : j < np + nb + ns) : (row8 np p ++ row8 nb b ++ row8 ns s)[j]? = some (.int .u8 (cat3 np nb p b s j)) := by
  unfold cat3
  by_cases h1 : j < np
  · rw [if_pos h1, List.getElem?_append_left (by simp [row8_length]; omega), List.getElem?_append_left (by simp [row8_length]; omega), row8_at h1]
  · rw [if_neg h1]
    by_cases h2 : j < np + nb
    · rw [if_pos h2, List.getElem?_append_left (by simp [row8_length]; omega), List.getElem?_append_right (by simp [row8_length]; omega), row8_length, row8_at (by omega)]
    · rw [if_neg h2, List.getElem?_append_right (by simp [row8_length]; omega)]
      simp only [List.length_append, row8_length]
      rw [row8_at (by omega)]
/-- What the three appends have made, as a slice of bytes. -/
theorem bytes_cat {w : World} {g cap base np nb ns : Nat} {e : TypeId} {p b s : Nat → Int} (hg : g < w.heap.size)
    (h : w.ownsRow base e 1 (.slice (some ⟨g, 0, none⟩) (np + nb + ns) cap) (np + nb + ns) (row8 np p ++ row8 nb b ++ row8 ns s)) : Bytes w (some ⟨g, 0, none⟩) (np + nb + ns) (cat3 np nb p b s) := by
  refine .inr ⟨g, 0, rfl, hg, fun k hk => ?_⟩
  have := h.cellAt k (by omega)
  rw [cat3_at np nb ns p b s k hk] at this
  simpa using this

theorem owns_lt {w : World} {g cap base n : Nat} {e : TypeId} {xs : List Value} (h : w.ownsRow base e 1 (.slice (some ⟨g, 0, none⟩) n cap) n xs) : g < w.heap.size := by
  rcases h.2 with ⟨h', _⟩ | ⟨g', cap', cur, h', _, hg, _⟩
  · cases h'
  · cases h'
    exact (Array.getElem?_eq_some_iff.1 hg).1

theorem zz10_yes (a b c : Option Addr) (np cp nb cb ns cs : Nat) (i : Int) (w : World) (h : np + nb + ns ≤ 1048576) : Calls Try.prog 10 #[.slice a np cp, .slice b nb cb, .slice c ns cs, .int .i64 i] w fun e w' => e = .returned (.bool true) ∧ w = w' := by
  go_enter Try.func10, Try.ntmps10
  go_wp2
  go_ret
  exact ⟨rfl, rfl⟩
theorem zz10_no (a b c : Option Addr) (np cp nb cb ns cs : Nat) (i : Int) (w : World) (h : ¬ np + nb + ns ≤ 1048576) : Calls Try.prog 10 #[.slice a np cp, .slice b nb cb, .slice c ns cs, .int .i64 i] w fun e w' => e = .returned (.bool false) ∧ w = w' := by
  by_cases h1 : np ≤ 1048576
  · by_cases h2 : nb ≤ 1048576
    · by_cases h3 : np + nb ≤ 1048576
      · by_cases h4 : ns ≤ 1048576
        · go_enter Try.func10, Try.ntmps10
          go_wp2
          go_ret
          exact ⟨rfl, rfl⟩
        · go_enter Try.func10, Try.ntmps10
          go_wp2
          go_ret
          exact ⟨rfl, rfl⟩
      · go_enter Try.func10, Try.ntmps10
        go_wp2
        go_ret
        exact ⟨rfl, rfl⟩
    · go_enter Try.func10, Try.ntmps10
      go_wp2
      go_ret
      exact ⟨rfl, rfl⟩
  · go_enter Try.func10, Try.ntmps10
    go_wp2
    go_ret
    exact ⟨rfl, rfl⟩
end Go.Proofs.Qxb6606087a

/-
  THE COPY OF A SLICE THAT CAME IN ('zzc := make([]byte, len(data)); copy(zzc, data)'), AS ONE LAW; a slice of bytes that came in, opened.
-/
import Derived.Deep.OwnRows
import Derived.Laws.CopyOwn
import Derived.Below
namespace Go.Proofs.Qxb6605498a
open Go.RowKit

/-- 'zzc := make([]byte, len(data)); copy(zzc, data)': THE copy, dst the row that make has just laid, src whatever has n cells. -/
theorem wpList_copy_made {P : Program} {w0 : World} {ops : Array Oper} {rest : List Oper} {o : Oper} {a : Act} {Q : Exit → Act → World → Prop} (hgd : o.guard = none) (d s : Operand) (dT sT : TypeId)
    (ho : o.op = .call { callee := .builtin .copy, args := #[d, s], argTypes := #[dT, sT] }) (elem : TypeId) (hu : P.underlying dT = some (.slice elem)) (hsz : (P.info? elem).map (·.size) = some 1)
    (n sCap : Nat) (sp : Option Addr) (hd : a.eval d = .slice (some ⟨w0.heap.size, 0, none⟩) n n) (hs : a.eval s = .slice sp n sCap) (z : Value) (t : TypeId) (c : Nat → Value) (h1 : ∀ k, (c k).oneCell' = true)
    (hsrc : 0 < n → ∃ b off, sp = some ⟨b, off, none⟩ ∧ b < w0.heap.size ∧ ∀ k, k < n → w0.cell? ⟨b, off + k, none⟩ = some (c k))
    (h : ∀ w', Hid (w'.rowIs w0.heap.size t n c) → Below w0.heap.size w0 w' → w0.heap.size < w'.heap.size → wpList P ops Q rest (a.put o.dst (goInt n)) w') :
    wpList P ops Q (o :: rest) a (w0.alloc (.cells (madeCells #[z] n) t)) := by
  have hl : ((List.range n).map c).length = n := by simp
  have hb0 : Below w0.heap.size w0 (w0.alloc (.cells (madeCells #[z] n) t)) := (Below.refl _ _).alloc (Nat.le_refl _) _
  refine wpList_copy_splice hgd d s dT sT ho elem hu hsz _ sp n n n sCap hd hs w0.heap.size 0 (madeCells #[z] n).toList t ?_ ((List.range n).map c) (by simp) ?_ (by simp [size_madeCells]) ?_ w0.heap.size w0 hb0 (Nat.le_refl _) ?_
  · rw [heap_alloc_new]
  · intro hp
    obtain ⟨b, off, rfl, hb, hc⟩ := hsrc (by omega)
    refine ⟨rfl, _, rfl, ?_⟩
    intro j v hj
    have hjn : j < n := by
      have := (List.getElem?_eq_some_iff.1 hj).1
      omega
    have hv : v = c j := by simp [List.getElem?_map, List.getElem?_range hjn] at hj; exact hj.symm
    subst hv
    have e : (⟨b, off, none⟩ : Addr).add j = ⟨b, off + j, none⟩ := by simp [Addr.add]
    rw [e]
    exact (hb0.cell (p := ⟨b, off + j, none⟩) hb).trans (hc j hjn)
  · intro v hv
    obtain ⟨k, _, rfl⟩ := List.mem_map.1 hv
    exact h1 k
  · intro w' hg hB
    have hg' := hg.out
    have es : splice (madeCells #[z] n).toList 0 ((List.range n).map c) = (List.range n).map c := by
      unfold splice
      have : (madeCells #[z] n).toList.drop (0 + ((List.range n).map c).length) = [] := List.drop_eq_nil_of_le (by simp [size_madeCells])
      rw [this]; simp
    rw [es] at hg'
    rw [hl]
    refine h w' ⟨_, hg', by simp, ?_⟩ hB ?_
    · intro i hi
      simp [List.getElem?_map, List.getElem?_range hi]
    · have := (Array.getElem?_eq_some_iff.1 hg').1
      exact this

/-- A row reads on where nothing below its block has turned. -/
theorem rowIs_below {B g : Nat} {t : TypeId} {n : Nat} {c : Nat → Value} {w w' : World} (h : w.rowIs g t n c) (hB : Below B w w') (hg : g < B) : w'.rowIs g t n c := h.of_block (hB.block g hg)

/-- WHAT A CALLEE IS TOLD OF A SLICE OF BYTES: it has no element; or its elements are 'd 0', 'd 1', .. -/
def Bytes (w : World) (a : Option Addr) (n : Nat) (d : Nat → Int) : Prop :=
  n = 0 ∨ ∃ b off, a = some ⟨b, off, none⟩ ∧ b < w.heap.size ∧ ∀ k, k < n → w.cell? ⟨b, off + k, none⟩ = some (.int .u8 (d k))
theorem cell_block {w : World} {a : Addr} {v : Value} (h : w.cell? a = some v) : a.block < w.heap.size := by
  unfold World.cell? at h
  split at h
  · rename_i hq
    exact (Array.getElem?_eq_some_iff.1 hq).1
  · cases h
/-- The shell's 'IsRow', opened (its two arms, as the shell types them). -/
theorem bytes_of {w : World} {a : Option Addr} {len cap : Nat} {zs : List Int}
    (h : (a = none ∧ len = 0 ∧ cap = 0 ∧ zs = []) ∨ ∃ x, a = some x ∧ len ≤ cap ∧ cap ≤ maxLen ∧ zs.length = cap ∧ (∀ i, i < zs.length → w.cell? (x.add i) = some (.int .u8 (zs.getD i 0))) ∧ ∀ n ∈ zs, (Lit.int .u8 n).wf = true) :
    Bytes w a len (fun k => zs.getD k 0) := by
  rcases h with ⟨_, h, _, _⟩ | ⟨x, rfl, hl, _, hz, hc, _⟩
  · exact .inl h
  · by_cases h0 : len = 0
    · exact .inl h0
    · right
      obtain ⟨b, off, spot⟩ := x
      have hs : spot = none := by simpa [Addr.add] using World.cell?_spot (hc 0 (by omega))
      subst hs
      have e : ∀ j, (⟨b, off, none⟩ : Addr).add j = ⟨b, off + j, none⟩ := fun j => by simp [Addr.add]
      refine ⟨b, off, rfl, ?_, fun k hk => by rw [← e]; exact hc k (by omega)⟩
      exact cell_block (a := (⟨b, off, none⟩ : Addr).add 0) (hc 0 (by omega))
/-- Every byte of such a list fits. -/
theorem byte_bd {zs : List Int} (h : ∀ n ∈ zs, (Lit.int .u8 n).wf = true) (k : Nat) : 0 ≤ zs.getD k 0 ∧ zs.getD k 0 ≤ 255 := by
  by_cases hk : k < zs.length
  · have := h _ (List.getElem_mem hk)
    simp [Lit.wf, IntKind.min, IntKind.max, IntKind.signed, IntKind.bits] at this
    simp [List.getD, List.getElem?_eq_getElem hk]
    omega
  · simp [List.getD, List.getElem?_eq_none (Nat.le_of_not_lt hk)]

end Go.Proofs.Qxb6605498a

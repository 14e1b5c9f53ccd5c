/-
  OUR OWN. Plain notions: an instruction's bytes; a code that is a list of instructions.
-/
import Derived.Test.YoeeuwFmtTab
namespace Go.Proofs.YoeeuwFmt
open Go.RowKit

/-- How many operand bytes the opcode's row says. -/
def wsum (op : Nat) : Nat := ((opRows.getD op []).map Int.toNat).sum
/-- One whole instruction: an opcode of the table and its operand bytes. -/
def Ins (l : List Int) : Prop := ∃ (op : Nat) (rest : List Int), l = (op : Int) :: rest ∧ op < 42 ∧ rest.length = wsum op ∧ ∀ b ∈ rest, 0 ≤ b ∧ b ≤ 255
theorem wsum_of {op : Nat} {r : List Int} (h : opRows[op]? = some r) : wsum op = (r.map Int.toNat).sum := by
  unfold wsum; rw [List.getD_eq_getElem?_getD, h]; rfl
theorem wsum_le (op : Nat) : wsum op ≤ 4 := by
  unfold wsum
  by_cases h : op < 42
  · have : ∀ l ∈ opRows, (l.map Int.toNat).sum ≤ 4 := by decide
    rw [List.getD_eq_getElem?_getD, List.getElem?_eq_getElem (by simpa [opRows] using h)]
    exact this _ (List.getElem_mem _)
  · rw [List.getD_eq_getElem?_getD, List.getElem?_eq_none (by simp [opRows]; omega)]; simp
theorem Ins.len {l : List Int} (h : Ins l) : 1 ≤ l.length ∧ l.length ≤ 5 := by
  obtain ⟨op, rest, rfl, _, hr, _⟩ := h
  have := wsum_le op
  simp; omega
theorem flat_len {I : List (List Int)} (h : ∀ l ∈ I, Ins l) : I.flatten.length ≤ 5 * I.length := by
  induction I with
  | nil => simp
  | cons a I ih =>
    have h1 := (h a (List.mem_cons_self ..)).len
    have h2 := ih (fun l hl => h l (List.mem_cons_of_mem _ hl))
    simp only [List.flatten_cons, List.length_append, List.length_cons]; omega

theorem Tab.later {w w' : World} (hT : Tab w) (hB : Below w.heap.size w w') : Tab w' := by
  refine ⟨Nat.lt_of_lt_of_le hT.1 hB.size, fun i l hl => ?_⟩
  obtain ⟨ao, cap, hr, hc⟩ := hT.2 i l hl
  refine ⟨ao, cap, (hB.cell (p := ⟨0, i, none⟩) hT.1).trans hr, fun hne => ?_⟩
  obtain ⟨b, off, rfl, hb, hcc⟩ := hc hne
  exact ⟨b, off, rfl, Nat.lt_of_lt_of_le hb hB.size, fun j hj => (hB.cell (p := ⟨b, off + j, none⟩) hb).trans (hcc j hj)⟩
theorem Names.later {w w' : World} (hN : Names w) (hB : Below w.heap.size w w') : Names w' :=
  ⟨Nat.lt_of_lt_of_le hN.1 hB.size, fun i hi => (hB.cell (p := ⟨1, i, none⟩) hN.1).trans (hN.2 i hi)⟩
end Go.Proofs.YoeeuwFmt

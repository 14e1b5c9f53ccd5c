/-
  OUR OWN. What both rows of this seat share: the condition 'laid' opened, the arguments opened, closed facts of the program.
-/
import Derived.Test.YoeeuwFmtParts
import Derived.ProofKit
import Derived.Stop.JoinedAt
import Derived.Stop.Texts
import Derived.Stop.JoinedTold
import Derived.SizedLaws
import Derived.Deep.DeepWitnessRef
import Derived.LaidMore
import Derived.SevenTiedAt
namespace Go.Proofs.YoeeuwFmt
open Go.ChangeShapes Go.WideShapes Go.ChangeAt Go.RowKit Go.Kit
open Go.Extern.Stop Go.Stop Go.Extern

theorem own : ownKnob Eeug.prog.godebug = none := by kernel_rfl
theorem cells5 : Eeug.prog.cellsOf 5 = 1 := by kernel_rfl
theorem pinnedLaidOut : laidOutB Eeug.pinned.checked.prog = true := by kernel_rfl
theorem pinnedStops : Eeug.pinned.checked.prog.stops = ["fmt.Sprintf"] := by kernel_rfl
theorem pinnedKnobs : Eeug.pinned.checked.prog.stopKnobs = [] := by kernel_rfl
theorem pinnedQuiet (os : Os) : Stop.quiet Eeug.pinned.checked.prog os := by
  intro k hk
  rw [pinnedKnobs] at hk
  cases hk

theorem of_laid {W : World} (h : laidMetH Eeug.prog Rows.fnFormatInstructionsOneLinePerInstructionRow.laid W) : Tab W ∧ Names W := by
  rw [MakeChecks.laidMetH_plain _ _ _ (by kernel_rfl)] at h
  obtain ⟨ps, ⟨g0, t0, cs0, f0, p0, q0, hg0, ht0, hv0, hd0, ⟨g1, t1, cs1, f1, p1, q1, hg1, ht1, hv1, hd1, _, _⟩, _⟩, _, _⟩ := h
  obtain rfl := Option.some.inj (gNames.symm.trans hg0)
  obtain rfl := Option.some.inj (tNames.symm.trans ht0)
  obtain rfl := Option.some.inj (gOps.symm.trans hg1)
  obtain rfl := Option.some.inj (tOps.symm.trans ht1)
  rw [laid_names] at hd0
  rw [laid_ops] at hd1
  exact ⟨tab_of_trod hv1 hd1, names_of_trod hv0 hd0⟩

theorem vars_ok {W : World} (hT : Tab W) (hN : Names W) : ∀ n ∈ [opsVar, namesVar], ∀ g t, Eeug.prog.globalNamed n = some g → (Eeug.prog.globals[g]?).map (·.type) = some t → g < W.heap.size ∧ Eeug.prog.readableRec t = true ∧ t < Eeug.prog.types.size := by
  intro n hn g t hg ht
  rcases (show n = opsVar ∨ n = namesVar by simpa using hn) with rfl | rfl
  · obtain rfl := Option.some.inj (gOps.symm.trans hg)
    obtain rfl := Option.some.inj (tOps.symm.trans ht)
    exact ⟨hT.1, by kernel_rfl, of_decide_eq_true (by kernel_rfl)⟩
  · obtain rfl := Option.some.inj (gNames.symm.trans hg)
    obtain rfl := Option.some.inj (tNames.symm.trans ht)
    exact ⟨hN.1, by kernel_rfl, of_decide_eq_true (by kernel_rfl)⟩

/-- A slice of integers that came in, opened into what the walks ask. -/
theorem view {H : Type} {enc : TypeId × Value → H} {W : World} {t e : TypeId} {k : IntKind} {ao : Option Addr} {n cap : Nat} {d : DataW H} {p : List MemPlace}
    (ht : Eeug.prog.underlying t = some (.slice e)) (he : Eeug.prog.underlying e = some (.int k)) (hc : Eeug.prog.cellsOf e = 1)
    (h : DataW.Trod enc Eeug.prog W 0 (fun _ => true) true t (.slice ao n cap) d p) : ∃ zs, SliceOf k W ao n cap zs ∧ n ≤ maxLen ∧ ∀ z ∈ zs, (Lit.int k z).wf = true := by
  obtain ⟨fuel, hf⟩ := h
  rcases open_ints ht he hc hf with ⟨hcs, _⟩ | ⟨a, len, cap', zs, hcs, _, hl, hm, hz, _, hcell, hwz⟩
  · have e : ao = none ∧ n = 0 ∧ cap = 0 := by simpa [Value.cells] using hcs
    obtain ⟨rfl, rfl, rfl⟩ := e
    exact ⟨[], ⟨rfl, (fun _ => ⟨rfl, rfl⟩), fun h => absurd rfl h⟩, Nat.zero_le _, fun z hz => by cases hz⟩
  · have e : ao = some a ∧ n = len ∧ cap = cap' := by simpa [Value.cells] using hcs
    obtain ⟨rfl, rfl, rfl⟩ := e
    have hzl : zs.length = cap := by simpa using hz
    refine ⟨zs.take n, ⟨by rw [List.length_take]; omega, (fun h => by cases h), fun hn => ?_⟩, by omega, fun z hz' => hwz z (List.mem_of_mem_take hz')⟩
    obtain ⟨b, off, rfl, hcc⟩ := ints_at hcell (by omega)
    refine ⟨b, off, rfl, cell_lt (hcc 0 (by omega)), fun j hj => ?_⟩
    rw [hcc j (by omega)]
    simp [hj]
end Go.Proofs.YoeeuwFmt

/-
  OUR OWN. FnFormatInstructionsOneLinePerInstruction: the told row, the told and tied card.
-/
import Derived.Test.YoeeuwFmtOne
import Derived.Test.YoeeuwFmtBase
import Derived.Test.YoeeuwFmtTie
import Derived.Test.YoeeuwFmtCards
namespace Go.Proofs.YoeeuwFmt
open Go.ChangeShapes Go.WideShapes Go.ChangeAt Go.RowKit Go.Kit
open Go.Extern.Stop Go.Stop Go.Extern

theorem one_any (F : Interp) (w : World) (hF : F.answers w.tape) (hT : Tab w) (hN : Names w) (a : Option Addr) (n ca : Nat) (b : Option Addr) (m cb : Nat) (p : Int) (os az : List Int) (hn : n ≤ maxLen) (hm : m ≤ maxLen)
    (ho : SliceOf .u8 w a n ca os) (hob : ∀ z ∈ os, 0 ≤ z ∧ z ≤ 255) (ha : SliceOf .i64 w b m cb az) :
    Calls Eeug.prog 3 #[.slice a n ca, .slice b m cb, .int .i64 p] w fun e w' => e = .returned (.bool true) ∧ Below w.heap.size w w' := by
  by_cases h0 : 1048576 < n + m
  · exact one_big w a n ca b m cb p h0 hn hm
  by_cases h1 : 1048576 < n + 8 * m ∨ 65536 < n ∨ 65536 < m
  · exact one_mid w a n ca b m cb p (by omega) h1
  exact one_small F w hF hT hN a n ca b m cb p os az (by omega) (by omega) (by omega) (by omega) ho hob ha

theorem one_met (os : Os) (args : Array Value) : laidMetH Eeug.prog Rows.fnFormatInstructionsOneLinePerInstructionRow.laid ((World.doorLaid Eeug.prog 61 os).forCall (fun _ _ => 0) ⟨#[], args, []⟩).memory :=
  laidMetH_of_parts3 (fuel := 8) (laidMet_of_run' 8 (by kernel_rfl) (by kernel_rfl)) (by kernel_rfl) (by kernel_rfl)

set_option maxRecDepth 100000 in
set_option maxHeartbeats 1600000 in
theorem one_lifted (os : Os) (started : os.Started) (H : Type) (enc : TypeId × Value → H) :
    ReturnsInTold none {} Eeug.checked os 3 .any Input.okWide ((OpenSpec.ofChange Rows.fnFormatInstructionsOneLinePerInstructionSpec).preRow enc Eeug.prog Eeug.f3 [] false Rows.fnFormatInstructionsOneLinePerInstructionRow.laid) (fun F => ((OpenSpec.ofChange Rows.fnFormatInstructionsOneLinePerInstructionSpec).at F).post enc Eeug.prog Eeug.f3 false true false false) (aloneAtReturn Eeug.prog) nothingAlways := by
  refine returnsInTold_of_row (C := Eeug.checked) (s := OpenSpec.ofChange Rows.fnFormatInstructionsOneLinePerInstructionSpec) (by kernel_rfl) own started (by kernel_rfl) Eeug.func3
    (OpenSpec.witness_stopped_atRef (enc := enc) (C := Eeug.checked) false (World.doorLaid Eeug.prog 61 os) #[.slice none 0 0, .slice none 0 0, .int .i64 0] rfl (by kernel_rfl) (by kernel_rfl) (by kernel_rfl)
      (OpenSpec.preRow_of_B rfl 8 (by kernel_rfl) (by kernel_rfl) (one_met os _))) ?_
  intro F W base args ds gs before _ hF hval0 hW _ _ _ hL _
  have hval : ∀ (j : Nat) t v, Eeug.f3.params[j]? = some t → args[j]? = some v → Value.okWide Eeug.prog W .any base t v := hval0
  have hW' := hW
  obtain ⟨p, q, hA0, hV0, rfl, hfz, hnd⟩ := hW
  have hA : DataW.TrodAll enc Eeug.prog W 0 (fun _ => true) true Eeug.f3.params.toList args.toList ds p := hA0
  have hV : DataW.TrodVars enc Eeug.prog W (fun _ => true) [opsVar, namesVar] gs q := hV0
  rw [Eeug.params3] at hA hval
  obtain ⟨v0, v1, v2, d0, d1, d2, p0, p1, p2, rfl, rfl, rfl, h0, h1, h2⟩ := trodAll_three hA
  obtain ⟨a, n, ca, rfl⟩ := okWide_slice Eeug.underlying22 (hval 0 22 v0 rfl rfl)
  obtain ⟨b, m, cb, rfl⟩ := okWide_slice Eeug.underlying23 (hval 1 23 v1 rfl rfl)
  obtain ⟨x, rfl, rfl, rfl, wx⟩ := open_int Eeug.underlying3 (hval 2 3 v2 rfl rfl) h2
  obtain ⟨oz, ho, hnm, hwo⟩ := view Eeug.underlying22 Eeug.underlying5 cells5 h0
  obtain ⟨az, ha, hmm, _⟩ := view Eeug.underlying23 Eeug.underlying3 cells3 h1
  obtain ⟨hT, hN⟩ := of_laid hL
  obtain ⟨e0, e1, hgs⟩ : ∃ e0 e1, gs = [e0, e1] := by
    match gs, hV with
    | [e0, e1], _ => exact ⟨e0, e1, rfl⟩
    | [], h => cases h
    | [_], h => obtain ⟨_, _, _, _, _, _, _, _, _, _, h, _⟩ := h; cases h
    | _ :: _ :: _ :: _, h => obtain ⟨_, _, _, _, _, _, _, _, _, _, h, _⟩ := h; obtain ⟨_, _, _, _, _, _, _, _, _, _, h, _⟩ := h; cases h
  subst hgs
  clear hA0 hV0 hval0
  have hfn : ((OpenSpec.ofChange Rows.fnFormatInstructionsOneLinePerInstructionSpec).at F.told).fn H ([d0, d1, .lit (.int .i64 x)] ++ [e0, e1]) = { results := [.lit (.bool true)], args := [d0, d1, .lit (.int .i64 x)], vars := [e0, e1] } := rfl
  have hqlt : ∀ z ∈ q, z.block < W.heap.size := hV.lt
  have hlt : ∀ z ∈ p0 ++ p1, z.block < W.heap.size := fun z hz => hW'.lt z (List.mem_append_left _ (List.mem_append_left _ hz))
  refine (one_any F.told W hF hT hN a n ca b m cb x oz az hnm hmm ho (fun z hz => bounds_u8 (hwo z hz)) ha).mono fun e W' ⟨he, hB⟩ => ?_
  subst he
  refine ⟨_, rfl, _, _, _, [], p0 ++ (p1 ++ []), q, hW', ?_, ?_, ?_, hB.frame _, fun h => by cases h⟩
  · rw [hfn]; exact trodAll_mk1 (shut_bool Eeug.underlying4 _)
  · rw [hfn]; exact trodAll_mk3 (Below.trod laidOut (by kernel_rfl) (of_decide_eq_true (by kernel_rfl)) h0 hB (fun z hz => hlt z (by simp [hz]))) (Below.trod laidOut (by kernel_rfl) (of_decide_eq_true (by kernel_rfl)) h1 hB (fun z hz => hlt z (by simp [hz]))) (shut_int Eeug.underlying3 wx)
  · rw [hfn]; exact vars_below hB hV hqlt (vars_ok hT hN)

theorem one_card : Rows.FnFormatInstructionsOneLinePerInstructionToldSaid :=
  Claim7.holds_of_told_tied_any_at .later 3 Eeug.f3 "fmt.Sprintf" [] [] _ _ _ _ _ (by kernel_rfl) rfl rfl rfl pinnedLaidOut (by kernel_rfl) rfl ⟨rfl, rfl, rfl, rfl, rfl, rfl, rfl⟩ rfl rfl (by kernel_rfl) (by kernel_rfl) Eeug.func3 (by kernel_rfl)
    (of_decide_eq_true (by kernel_rfl)) (by unfold Func.isWrapper; first | (rw [if_pos (by decide +kernel)]; kernel_rfl) | (rw [if_neg (by decide +kernel)]; exact ⟨rfl, rfl⟩)) pinnedStops.symm rfl pinnedKnobs.symm (by kernel_rfl)
    (by kernel_rfl) (by kernel_rfl) (by kernel_rfl) (by kernel_rfl) (by kernel_rfl) (by kernel_rfl) (by kernel_rfl) (by kernel_rfl) (by kernel_rfl) rfl (by kernel_rfl) rfl rfl
    rfl rfl
    rfl (by kernel_rfl) (by kernel_rfl) (by kernel_rfl) (by decide) (by kernel_rfl) fnFormatInstructionsOneLinePerInstruction_row_tie
    (OpenClaim.moreEntering_of (by kernel_rfl) (by kernel_rfl) (by kernel_rfl) (by kernel_rfl) (by kernel_rfl) (by kernel_rfl) (by kernel_rfl) (by kernel_rfl) (by kernel_rfl) (by kernel_rfl))
    ⟨_, WideRow.started_initial, pinnedQuiet _⟩
    (fun os started _ H enc _ => one_lifted os started H enc)
end Go.Proofs.YoeeuwFmt

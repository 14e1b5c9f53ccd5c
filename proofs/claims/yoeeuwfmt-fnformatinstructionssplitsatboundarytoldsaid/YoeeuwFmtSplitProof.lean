/-
  OUR OWN. FnFormatInstructionsSplitsAtBoundary: the told row, the told and tied card.
-/
import Derived.Test.YoeeuwFmtSplit
import Derived.Test.YoeeuwFmtBase
import Derived.Test.YoeeuwFmtTie
import Derived.Test.YoeeuwFmtCards
namespace Go.Proofs.YoeeuwFmt
open Go.ChangeShapes Go.WideShapes Go.ChangeAt Go.RowKit Go.Kit
open Go.Extern.Stop Go.Stop Go.Extern

theorem split_any (F : Interp) (w : World) (hF : F.answers w.tape) (hT : Tab w) (hN : Names w) (a b c : Option Addr) (la ca lb cb lc cc : Nat) (p : Int) (os ot az : List Int) (hla : la ≤ maxLen) (hlb : lb ≤ maxLen) (hlc : lc ≤ maxLen)
    (ho : SliceOf .u8 w a la ca os) (hob : ∀ z ∈ os, 0 ≤ z ∧ z ≤ 255) (hp : SliceOf .u8 w b lb cb ot) (hpb : ∀ z ∈ ot, 0 ≤ z ∧ z ≤ 255) (ha : SliceOf .i64 w c lc cc az) :
    Calls Eeug.prog 4 #[.slice a la ca, .slice b lb cb, .slice c lc cc, .int .i64 p] w fun e w' => e = .returned (.bool true) ∧ Below w.heap.size w w' := by
  by_cases h0 : 1048576 < la + lb + lc
  · exact split_big w a b c la ca lb cb lc cc p h0 hla hlb hlc
  by_cases h1 : 1048576 < la + lb + 8 * lc ∨ 65536 < la ∨ 65536 < lb ∨ 65536 < lc
  · exact split_mid w a b c la ca lb cb lc cc p (by omega) h1
  exact split_small F w hF hT hN a b c la ca lb cb lc cc p os ot az (by omega) (by omega) (by omega) (by omega) (by omega) ho hob hp hpb ha

theorem split_met (os : Os) (args : Array Value) : laidMetH Eeug.prog Rows.fnFormatInstructionsSplitsAtBoundaryRow.laid ((World.doorLaid Eeug.prog 61 os).forCall (fun _ _ => 0) ⟨#[], args, []⟩).memory :=
  laidMetH_of_parts3 (fuel := 8) (laidMet_of_run' 8 (by kernel_rfl) (by kernel_rfl)) (by kernel_rfl) (by kernel_rfl)

set_option maxRecDepth 100000 in
set_option maxHeartbeats 1600000 in
theorem split_lifted (os : Os) (started : os.Started) (H : Type) (enc : TypeId × Value → H) :
    ReturnsInTold none {} Eeug.checked os 4 .any Input.okWide ((OpenSpec.ofChange Rows.fnFormatInstructionsSplitsAtBoundarySpec).preRow enc Eeug.prog Eeug.f4 [] false Rows.fnFormatInstructionsSplitsAtBoundaryRow.laid) (fun F => ((OpenSpec.ofChange Rows.fnFormatInstructionsSplitsAtBoundarySpec).at F).post enc Eeug.prog Eeug.f4 false true false false) (aloneAtReturn Eeug.prog) nothingAlways := by
  refine returnsInTold_of_row (C := Eeug.checked) (s := OpenSpec.ofChange Rows.fnFormatInstructionsSplitsAtBoundarySpec) (by kernel_rfl) own started (by kernel_rfl) Eeug.func4
    (OpenSpec.witness_stopped_atRef (enc := enc) (C := Eeug.checked) false (World.doorLaid Eeug.prog 61 os) #[.slice none 0 0, .slice none 0 0, .slice none 0 0, .int .i64 0] rfl (by kernel_rfl) (by kernel_rfl) (by kernel_rfl)
      (OpenSpec.preRow_of_B rfl 8 (by kernel_rfl) (by kernel_rfl) (split_met os _))) ?_
  intro F W base args ds gs before _ hF hval0 hW _ _ _ hL _
  have hval : ∀ (j : Nat) t v, Eeug.f4.params[j]? = some t → args[j]? = some v → Value.okWide Eeug.prog W .any base t v := hval0
  have hW' := hW
  obtain ⟨p, q, hA0, hV0, rfl, hfz, hnd⟩ := hW
  have hA : DataW.TrodAll enc Eeug.prog W 0 (fun _ => true) true Eeug.f4.params.toList args.toList ds p := hA0
  have hV : DataW.TrodVars enc Eeug.prog W (fun _ => true) [opsVar, namesVar] gs q := hV0
  rw [Eeug.params4] at hA hval
  obtain ⟨v0, v1, v2, v3, d0, d1, d2, d3, p0, p1, p2, p3, rfl, rfl, rfl, h0, h1, h2, h3⟩ := trodAll_four hA
  obtain ⟨a, n, ca, rfl⟩ := okWide_slice Eeug.underlying22 (hval 0 22 v0 rfl rfl)
  obtain ⟨b, m, cb, rfl⟩ := okWide_slice Eeug.underlying22 (hval 1 22 v1 rfl rfl)
  obtain ⟨c, l, cc, rfl⟩ := okWide_slice Eeug.underlying23 (hval 2 23 v2 rfl rfl)
  obtain ⟨x, rfl, rfl, rfl, wx⟩ := open_int Eeug.underlying3 (hval 3 3 v3 rfl rfl) h3
  obtain ⟨oz, ho, hnm, hwo⟩ := view Eeug.underlying22 Eeug.underlying5 cells5 h0
  obtain ⟨pz, hp, hmm, hwp⟩ := view Eeug.underlying22 Eeug.underlying5 cells5 h1
  obtain ⟨az, ha, hll, _⟩ := view Eeug.underlying23 Eeug.underlying3 cells3 h2
  obtain ⟨hT, hN⟩ := of_laid hL
  obtain ⟨e0, e1, hgs⟩ : ∃ e0 e1, gs = [e0, e1] := by
    match gs, hV with
    | [e0, e1], _ => exact ⟨e0, e1, rfl⟩
    | [], h => cases h
    | [_], h => obtain ⟨_, _, _, _, _, _, _, _, _, _, h, _⟩ := h; cases h
    | _ :: _ :: _ :: _, h => obtain ⟨_, _, _, _, _, _, _, _, _, _, h, _⟩ := h; obtain ⟨_, _, _, _, _, _, _, _, _, _, h, _⟩ := h; cases h
  subst hgs
  clear hA0 hV0 hval0
  have hfn : ((OpenSpec.ofChange Rows.fnFormatInstructionsSplitsAtBoundarySpec).at F.told).fn H ([d0, d1, d2, .lit (.int .i64 x)] ++ [e0, e1]) = { results := [.lit (.bool true)], args := [d0, d1, d2, .lit (.int .i64 x)], vars := [e0, e1] } := rfl
  have hqlt : ∀ z ∈ q, z.block < W.heap.size := hV.lt
  have hlt : ∀ z ∈ p0 ++ p1 ++ p2, z.block < W.heap.size := fun z hz => hW'.lt z (List.mem_append_left _ (List.mem_append_left _ hz))
  refine (split_any F.told W hF hT hN a b c n ca m cb l cc x oz pz az hnm hmm hll ho (fun z hz => bounds_u8 (hwo z hz)) hp (fun z hz => bounds_u8 (hwp z hz)) ha).mono fun e W' ⟨he, hB⟩ => ?_
  subst he
  refine ⟨_, rfl, _, _, _, [], p0 ++ (p1 ++ (p2 ++ [])), q, hW', ?_, ?_, ?_, hB.frame _, fun h => by cases h⟩
  · rw [hfn]; exact trodAll_mk1 (shut_bool Eeug.underlying4 _)
  · rw [hfn]; exact trodAll_mk4 (Below.trod laidOut (by kernel_rfl) (of_decide_eq_true (by kernel_rfl)) h0 hB (fun z hz => hlt z (by simp [hz]))) (Below.trod laidOut (by kernel_rfl) (of_decide_eq_true (by kernel_rfl)) h1 hB (fun z hz => hlt z (by simp [hz]))) (Below.trod laidOut (by kernel_rfl) (of_decide_eq_true (by kernel_rfl)) h2 hB (fun z hz => hlt z (by simp [hz]))) (shut_int Eeug.underlying3 wx)
  · rw [hfn]; exact vars_below hB hV hqlt (vars_ok hT hN)

theorem split_card : Rows.FnFormatInstructionsSplitsAtBoundaryToldSaid :=
  Claim7.holds_of_told_tied_any_at .later 4 Eeug.f4 "fmt.Sprintf" [] [] _ _ _ _ _ (by kernel_rfl) rfl rfl rfl pinnedLaidOut (by kernel_rfl) rfl ⟨rfl, rfl, rfl, rfl, rfl, rfl, rfl⟩ rfl rfl (by kernel_rfl) (by kernel_rfl) Eeug.func4 (by kernel_rfl)
    (of_decide_eq_true (by kernel_rfl)) (by unfold Func.isWrapper; first | (rw [if_pos (by decide +kernel)]; kernel_rfl) | (rw [if_neg (by decide +kernel)]; exact ⟨rfl, rfl⟩)) pinnedStops.symm rfl pinnedKnobs.symm (by kernel_rfl)
    (by kernel_rfl) (by kernel_rfl) (by kernel_rfl) (by kernel_rfl) (by kernel_rfl) (by kernel_rfl) (by kernel_rfl) (by kernel_rfl) (by kernel_rfl) rfl (by kernel_rfl) rfl rfl
    rfl rfl
    rfl (by kernel_rfl) (by kernel_rfl) (by kernel_rfl) (by decide) (by kernel_rfl) fnFormatInstructionsSplitsAtBoundary_row_tie
    (OpenClaim.moreEntering_of (by kernel_rfl) (by kernel_rfl) (by kernel_rfl) (by kernel_rfl) (by kernel_rfl) (by kernel_rfl) (by kernel_rfl) (by kernel_rfl) (by kernel_rfl) (by kernel_rfl))
    ⟨_, WideRow.started_initial, pinnedQuiet _⟩
    (fun os started _ H enc _ => split_lifted os started H enc)
end Go.Proofs.YoeeuwFmt

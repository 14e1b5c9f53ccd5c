/-
  OUR OWN. FnMakeInstructionReadOperandsRoundTrip: the walks joined, the row, the tied card.
-/
import Derived.Test.YoeeuwDoorRtB
import Derived.Test.YoeeuwDoorTab
import Derived.Test.YoeeuwDoorTie
import Derived.Test.YoeeuwDoorCards
namespace Go.Proofs.YoeeuwDoor
open Go.ChangeShapes Go.WideShapes Go.ChangeAt Go.WideMaps Go.WideElems Go.RowKit

theorem row_shapes : ∀ l ∈ opRows, l = [] ∨ l = [1] ∨ l = [2] ∨ l = [4] ∨ l = [1, 1] ∨ l = [2, 1] := by decide

theorem rt_any (op x y : Int) (h0 : 0 ≤ op) (h1 : op ≤ 255) (bx : x ≤ 9223372036854775807) (by' : y ≤ 9223372036854775807) (w : World) (hT : Tab w) :
    Calls Eeug.prog 4 #[.int .u8 op, .int .i64 x, .int .i64 y] w fun e w' => e = .returned (.bool true) ∧ Below w.heap.size w w' := by
  by_cases h42 : 42 ≤ op
  · exact rt_past op h42 h1 w x y
  obtain ⟨i, rfl⟩ := Int.eq_ofNat_of_zero_le h0
  have hi : i < 42 := by omega
  obtain ⟨l, hl⟩ : ∃ l, opRows[i]? = some l := ⟨_, List.getElem?_eq_getElem (by simpa [opRows] using hi)⟩
  obtain ⟨ao, cap, hr, hcs⟩ := hT.2 i l hl
  have hz := hT.1
  rcases row_shapes l (List.mem_of_getElem? hl) with rfl | rfl | rfl | rfl | rfl | rfl
  · exact rt_e_full i hi w hz ao cap hr x y
  · obtain ⟨b, off, rfl, hb, hc⟩ := hcs (by simp)
    have hc0 := hc 0 (by decide)
    by_cases l0 : x < 0
    · exact rt_1_early0lo i hi w b off cap hr hc0 hb x y  l0
    by_cases g0 : 256 ≤ x
    · exact rt_1_early0hi i hi w b off cap hr hc0 hb x y  g0 bx
    exact rt_1_full i hi w hz b off cap hr hc0 hb x y (by omega)
  · obtain ⟨b, off, rfl, hb, hc⟩ := hcs (by simp)
    have hc0 := hc 0 (by decide)
    by_cases l0 : x < 0
    · exact rt_2_early0lo i hi w b off cap hr hc0 hb x y  l0
    by_cases g0 : 65536 ≤ x
    · exact rt_2_early0hi i hi w b off cap hr hc0 hb x y  g0 bx
    exact rt_2_full i hi w hz b off cap hr hc0 hb x y (by omega)
  · obtain ⟨b, off, rfl, hb, hc⟩ := hcs (by simp)
    have hc0 := hc 0 (by decide)
    by_cases l0 : x < 0
    · exact rt_4_early0lo i hi w b off cap hr hc0 hb x y  l0
    by_cases g0 : 4294967296 ≤ x
    · exact rt_4_early0hi i hi w b off cap hr hc0 hb x y  g0 bx
    exact rt_4_full i hi w hz b off cap hr hc0 hb x y (by omega)
  · obtain ⟨b, off, rfl, hb, hc⟩ := hcs (by simp)
    have hc0 := hc 0 (by decide)
    have hc1 := hc 1 (by decide)
    by_cases l0 : x < 0
    · exact rt_11_early0lo i hi w b off cap hr hc0 hc1 hb x y  l0
    by_cases g0 : 256 ≤ x
    · exact rt_11_early0hi i hi w b off cap hr hc0 hc1 hb x y  g0 bx
    by_cases l1 : y < 0
    · exact rt_11_early1lo i hi w b off cap hr hc0 hc1 hb x y (by omega) l1
    by_cases g1 : 256 ≤ y
    · exact rt_11_early1hi i hi w b off cap hr hc0 hc1 hb x y (by omega) g1 by'
    exact rt_11_full i hi w hz b off cap hr hc0 hc1 hb x y (by omega) (by omega)
  · obtain ⟨b, off, rfl, hb, hc⟩ := hcs (by simp)
    have hc0 := hc 0 (by decide)
    have hc1 := hc 1 (by decide)
    by_cases l0 : x < 0
    · exact rt_21_early0lo i hi w b off cap hr hc0 hc1 hb x y  l0
    by_cases g0 : 65536 ≤ x
    · exact rt_21_early0hi i hi w b off cap hr hc0 hc1 hb x y  g0 bx
    by_cases l1 : y < 0
    · exact rt_21_early1lo i hi w b off cap hr hc0 hc1 hb x y (by omega) l1
    by_cases g1 : 256 ≤ y
    · exact rt_21_early1hi i hi w b off cap hr hc0 hc1 hb x y (by omega) g1 by'
    exact rt_21_full i hi w hz b off cap hr hc0 hc1 hb x y (by omega) (by omega)

theorem own : ownKnob Eeug.prog.godebug = none := by kernel_rfl

theorem tab_of_laid {W : World} (h : laidMetH Eeug.prog Rows.fnMakeInstructionReadOperandsRoundTripRow.laid W) : Tab W := by
  rw [MakeChecks.laidMetH_plain _ _ _ (by kernel_rfl)] at h
  obtain ⟨ps, ⟨g0, t0, cs0, f0, p0, q0, hg0, ht0, hv0, hd0, _, _⟩, _, _⟩ := h
  obtain rfl := Option.some.inj (gOps.symm.trans hg0)
  obtain rfl := Option.some.inj (tOps.symm.trans ht0)
  rw [laid_ops] at hd0
  exact tab_of_trod hv0 hd0

theorem door_met (os : Os) (args : Array Value) : laidMetH Eeug.prog Rows.fnMakeInstructionReadOperandsRoundTripRow.laid ((World.doorLaid Eeug.prog 56 os).forCall (fun _ _ => 0) ⟨#[], args, []⟩).memory :=
  laidMetH_of_parts3 (fuel := 8) (laidMet_of_run' 8 (by kernel_rfl) (by kernel_rfl)) (by kernel_rfl) (by kernel_rfl)

theorem vars_ok {W : World} (hz : 0 < W.heap.size) : ∀ n ∈ [opsVar], ∀ g t, Eeug.prog.globalNamed n = some g → (Eeug.prog.globals[g]?).map (·.type) = some t → g < W.heap.size ∧ Eeug.prog.readableRec t = true ∧ t < Eeug.prog.types.size := by
  intro n hn g t hg ht
  obtain rfl : n = opsVar := by simpa using hn
  obtain rfl := Option.some.inj (gOps.symm.trans hg)
  obtain rfl := Option.some.inj (tOps.symm.trans ht)
  exact ⟨hz, by kernel_rfl, of_decide_eq_true (by kernel_rfl)⟩

set_option maxRecDepth 100000 in
theorem rt_lifted (os : Os) (started : os.Started) (H : Type) (enc : TypeId × Value → H) :
    ReturnsInHanded {} Eeug.checked os 4 .any (fun w args => (Rows.fnMakeInstructionReadOperandsRoundTripSpec.pre enc Eeug.prog Eeug.f4 [] false w args ∧ laidMetH Eeug.prog Rows.fnMakeInstructionReadOperandsRoundTripRow.laid w) ∧ sizedMet enc Eeug.prog Eeug.f4 (OpenSpec.ofChange Rows.fnMakeInstructionReadOperandsRoundTripSpec) false w args)
      (Rows.fnMakeInstructionReadOperandsRoundTripSpec.post enc Eeug.prog Eeug.f4 false true false false) := by
  refine returnsInHanded_of_change_and (C := Eeug.checked) (X := fun w _ => laidMetH Eeug.prog Rows.fnMakeInstructionReadOperandsRoundTripRow.laid w) (fun _ _ _ hh h => h.of_heap hh) own started (by kernel_rfl) Eeug.func4
    (ChangeSpec.witness_shaped (enc := enc) (C := Eeug.checked) (os := os) (X := fun w _ => laidMetH Eeug.prog Rows.fnMakeInstructionReadOperandsRoundTripRow.laid w) false (World.doorLaid Eeug.prog 56 os) #[.int .u8 0, .int .i64 0, .int .i64 0] 8 rfl (World.shaped_of_RefB (by kernel_rfl) (by kernel_rfl)) (by kernel_rfl) (by kernel_rfl) (by kernel_rfl) (door_met os _)) ?_
  intro W base args ds gs before hval0 hW _ _ hL _
  have hval : ∀ (j : Nat) t v, Eeug.f4.params[j]? = some t → args[j]? = some v → Value.okWide Eeug.prog W .any base t v := hval0
  have hW' := hW
  obtain ⟨p, q, hA0, hV0, rfl, hfz, hnd⟩ := hW
  have hA : DataW.TrodAll enc Eeug.prog W 0 (fun _ => true) true Eeug.f4.params.toList args.toList ds p := hA0
  have hV : DataW.TrodVars enc Eeug.prog W (fun _ => true) [opsVar] gs q := hV0
  rw [Eeug.params4] at hA hval
  obtain ⟨v0, v1, v2, d0, d1, d2, p0, p1, p2, rfl, rfl, rfl, h0, h1, h2⟩ := trodAll_three hA
  obtain ⟨op, rfl, rfl, rfl, wo⟩ := open_int Eeug.underlying5 (hval 0 5 v0 rfl rfl) h0
  obtain ⟨x, rfl, rfl, rfl, wx⟩ := open_int Eeug.underlying3 (hval 1 3 v1 rfl rfl) h1
  obtain ⟨y, rfl, rfl, rfl, wy⟩ := open_int Eeug.underlying3 (hval 2 3 v2 rfl rfl) h2
  have hT := tab_of_laid hL
  have hbd := bounds_u8 wo
  obtain ⟨d, hgs⟩ : ∃ d, gs = [d] := by
    obtain ⟨_, _, _, _, d, _, e, _⟩ := trodVars_one hV
    exact ⟨d, e⟩
  subst hgs
  clear hA0 hV0 hval0
  have e1 : Rows.fnMakeInstructionReadOperandsRoundTripSpec.fn H ([.lit (.int .u8 op), .lit (.int .i64 x), .lit (.int .i64 y)] ++ [d]) = { results := [.lit (.bool true)], args := [.lit (.int .u8 op), .lit (.int .i64 x), .lit (.int .i64 y)], vars := [d] } := rfl
  have hlt : ∀ z ∈ q, z.block < W.heap.size := hV.lt
  refine (rt_any op x y hbd.1 hbd.2 (bounds_i64 wx).2 (bounds_i64 wy).2 W hT).mono fun e W' ⟨he, hB⟩ => ?_
  subst he
  refine ⟨_, rfl, _, _, _, [], [], q, hW', ?_, ?_, ?_, hB.frame _, fun h => by cases h⟩
  · rw [e1]; exact trodAll_mk1 (shut_bool Eeug.underlying4 _)
  · rw [e1]; exact trodAll_mk3 (shut_int Eeug.underlying5 wo) (shut_int Eeug.underlying3 wx) (shut_int Eeug.underlying3 wy)
  · rw [e1]; exact vars_below hB hV hlt (vars_ok hT.1)

theorem rt_holds : Rows.FnMakeInstructionReadOperandsRoundTripSaid :=
  OpenClaim.holds_of_wide 4 Eeug.f4 rfl rfl rfl rfl rfl rfl rfl ⟨rfl, rfl, rfl, rfl, rfl⟩ rfl rfl rfl rfl rfl (by kernel_rfl) Eeug.func4 (by kernel_rfl)
    (of_decide_eq_true (by kernel_rfl)) (by unfold Func.isWrapper; first | (rw [if_pos (by decide +kernel)]; kernel_rfl) | (rw [if_neg (by decide +kernel)]; exact ⟨rfl, rfl⟩))
    (fun os started H enc _ => rt_lifted os started H enc)

theorem rt_card : Rows.FnMakeInstructionReadOperandsRoundTripCardSaid :=
  Claim7.holds_tied_plain_at .later [] [.widerDeep] true (true, "0e171d185269194077806107357a1cc8ae74d401924f425327896c72cfce070c") false
    rt_holds (fun _ h => by cases h) (by kernel_rfl) (fun _ h => by cases h) fnMakeInstructionReadOperandsRoundTrip_row_tie rfl ⟨rfl, rfl⟩ (by kernel_rfl) rfl
    (fun f fn hf hfn => by
      obtain rfl : f = 4 := Option.some.inj ((show Eeug.prog.funcNamed Rows.fnMakeInstructionReadOperandsRoundTripRow.func = some 4 by kernel_rfl).symm.trans hf) |>.symm
      obtain rfl : fn = Eeug.f4 := (Option.some.inj (Eeug.func4.symm.trans hfn)).symm
      exact ⟨by kernel_rfl, fun j t ht => by
        rw [Eeug.params4] at ht
        have hm : t ∈ [5, 3, 3] := by simpa using Array.mem_of_getElem? ht
        have hall : ([5, 3, 3].all fun u => !Eeug.prog.wantsStandIn u) = true := by kernel_rfl
        exact (show Eeug.prog.wantsStandIn t = false by simpa using List.all_eq_true.1 hall t hm)⟩)
    (by kernel_rfl)
end Go.Proofs.YoeeuwDoor

/-
  OUR OWN. The walks of FnFormatInstructionsSplitsAtBoundary.
-/
import Derived.Test.YoeeuwFmtParts
import Derived.Deep.QuietTactic
import Derived.BigQuiet
namespace Go.Proofs.YoeeuwFmt
open Go.RowKit Go.Extern.Stop Go.Stop Go.Extern

set_option maxHeartbeats 400000 in
theorem bytes4_yes (w : World) (a b c : Option Addr) (la ca lb cb lc cc : Nat) (p : Int) (h : la + lb + lc ≤ 1048576) :
    Calls Eeug.prog 11 #[.slice a la ca, .slice b lb cb, .slice c lc cc, .int .i64 p] w fun e w' => e = .returned (.bool true) ∧ w = w' := by
  have h1 : ¬ (1048576 : Int) < (la : Int) := by omega
  have h2 : ¬ (1048576 : Int) < (lb : Int) := by omega
  have h3 : ¬ (1048576 : Int) < (lc : Int) := by omega
  have h4 : ¬ (1048576 : Int) < (la : Int) + (lb : Int) := by omega
  have h5 : ¬ (1048576 : Int) < (la : Int) + (lb : Int) + (lc : Int) := by omega
  go_enter Eeug.func11, Eeug.ntmps11
  go_wp2
  go_ret
  exact ⟨rfl, rfl⟩

set_option maxHeartbeats 800000 in
theorem bytes4_no (w : World) (a b c : Option Addr) (la ca lb cb lc cc : Nat) (p : Int) (h : 1048576 < la + lb + lc) (hla : la ≤ maxLen) (hlb : lb ≤ maxLen) (hlc : lc ≤ maxLen) :
    Calls Eeug.prog 11 #[.slice a la ca, .slice b lb cb, .slice c lc cc, .int .i64 p] w fun e w' => e = .returned (.bool false) ∧ w = w' := by
  unfold maxLen at hla hlb hlc
  by_cases h1 : (1048576 : Int) < (la : Int)
  · go_enter Eeug.func11, Eeug.ntmps11
    go_wp2
    go_ret
    exact ⟨rfl, rfl⟩
  by_cases h2 : (1048576 : Int) < (lb : Int)
  · go_enter Eeug.func11, Eeug.ntmps11
    go_wp2
    go_ret
    exact ⟨rfl, rfl⟩
  by_cases h3 : (1048576 : Int) < (la : Int) + (lb : Int)
  · go_enter Eeug.func11, Eeug.ntmps11
    go_wp2
    go_ret
    exact ⟨rfl, rfl⟩
  by_cases h4 : (1048576 : Int) < (lc : Int)
  · go_enter Eeug.func11, Eeug.ntmps11
    go_wp2
    go_ret
    exact ⟨rfl, rfl⟩
  have h5 : (1048576 : Int) < (la : Int) + (lb : Int) + (lc : Int) := by omega
  go_enter Eeug.func11, Eeug.ntmps11
  go_wp2
  go_ret
  exact ⟨rfl, rfl⟩

set_option maxHeartbeats 800000 in
theorem split_big (w : World) (a b c : Option Addr) (la ca lb cb lc cc : Nat) (p : Int) (h : 1048576 < la + lb + lc) (hla : la ≤ maxLen) (hlb : lb ≤ maxLen) (hlc : lc ≤ maxLen) :
    Calls Eeug.prog 4 #[.slice a la ca, .slice b lb cb, .slice c lc cc, .int .i64 p] w fun e w' => e = .returned (.bool true) ∧ Below w.heap.size w w' := by
  go_enter Eeug.func4, Eeug.ntmps4
  go_wp2_with fail
  refine (bytes4_no w a b c la ca lb cb lc cc p h hla hlb hlc).mono ?_
  rintro e w' ⟨rfl, rfl⟩
  go_wp2_with fail
  go_ret
  exact ⟨rfl, Below.refl _ _⟩

set_option maxHeartbeats 1600000 in
theorem split_mid (w : World) (a b c : Option Addr) (la ca lb cb lc cc : Nat) (p : Int) (h0 : la + lb + lc ≤ 1048576) (h : 1048576 < la + lb + 8 * lc ∨ 65536 < la ∨ 65536 < lb ∨ 65536 < lc) :
    Calls Eeug.prog 4 #[.slice a la ca, .slice b lb cb, .slice c lc cc, .int .i64 p] w fun e w' => e = .returned (.bool true) ∧ Below w.heap.size w w' := by
  by_cases h1 : 1048576 < la + lb + 8 * lc
  · go_enter Eeug.func4, Eeug.ntmps4
    go_wp2_with fail
    refine (bytes4_yes w a b c la ca lb cb lc cc p h0).mono ?_
    rintro e w' ⟨rfl, rfl⟩
    go_wp2_with fail
    go_ret
    exact ⟨rfl, Below.refl _ _⟩
  by_cases h2 : 65536 < la
  · go_enter Eeug.func4, Eeug.ntmps4
    go_wp2_with fail
    refine (bytes4_yes w a b c la ca lb cb lc cc p h0).mono ?_
    rintro e w' ⟨rfl, rfl⟩
    go_wp2_with fail
    go_ret
    exact ⟨rfl, Below.refl _ _⟩
  by_cases h3 : 65536 < lb
  · go_enter Eeug.func4, Eeug.ntmps4
    go_wp2_with fail
    refine (bytes4_yes w a b c la ca lb cb lc cc p h0).mono ?_
    rintro e w' ⟨rfl, rfl⟩
    go_wp2_with fail
    go_ret
    exact ⟨rfl, Below.refl _ _⟩
  have h4 : 65536 < lc := by omega
  clear h
  go_enter Eeug.func4, Eeug.ntmps4
  go_wp2_with fail
  refine (bytes4_yes w a b c la ca lb cb lc cc p h0).mono ?_
  rintro e w' ⟨rfl, rfl⟩
  go_wp2_with fail
  go_ret
  exact ⟨rfl, Below.refl _ _⟩

theorem Code.cells {w : World} {base n : Nat} {ao : Option Addr} {L cap : Nat} {I : List (List Int)} (h : Code w base n ao L cap I) : ∀ ad, ao = some ad → ∀ j u, (I.flatten.map (Value.int .u8))[j]? = some u → w.cell? (ad.add j) = some u := by
  intro ad ha j u hj
  obtain ⟨_, _, hL, _, hown⟩ := h
  rcases hown.2 with ⟨hv, _⟩ | ⟨g, cap', cur, hv, _⟩
  · rw [ha] at hv; cases hv
  · rw [ha] at hv
    obtain rfl : ad = ⟨g, 0, none⟩ := by simpa using (show ad = ⟨g, 0, none⟩ ∧ cap = cap' by simpa using hv).1
    rw [ha] at hown
    have hjl : j < L * 1 := by
      have := (List.getElem?_eq_some_iff.1 hj).1
      simp only [List.length_map] at this
      omega
    rw [Go.WideShapes.add_plain, Nat.zero_add, hown.cellAt j hjl]
    exact hj
theorem u8_cells (l : List Int) : ∀ u ∈ l.map (Value.int .u8), u.oneCell' = true := by
  intro u hu
  obtain ⟨z, _, rfl⟩ := List.mem_map.1 hu
  rfl
theorem Code.both {w : World} {base n m : Nat} {g L : Nat} {IA IB : List (List Int)} (hA : IA.length = n) (hB : IB.length = m) (iA : ∀ l ∈ IA, Ins l) (iB : ∀ l ∈ IB, Ins l) (hL : IA.flatten.length + IB.flatten.length = L) {c : Nat}
    (h : w.ownsRow base 5 1 (.slice (some ⟨g, 0, none⟩) L c) L (IA.flatten.map (Value.int .u8) ++ IB.flatten.map (Value.int .u8))) : Code w base (n + m) (some ⟨g, 0, none⟩) L c (IA ++ IB) := by
  refine ⟨by simp [hA, hB], ?_, by simpa using hL, (fun h => by cases h), by simpa using h⟩
  intro l hl
  rcases List.mem_append.1 hl with h | h
  · exact iA l h
  · exact iB l h
theorem Lines.form {w : World} {base : Nat} {ao : Option Addr} {n cap : Nat} {ls : List ByteArray} (h : Lines w base ao n cap ls) (hn : 0 < n) : ∃ g, ao = some ⟨g, 0, none⟩ ∧ ∀ j, j < n → w.cell? ⟨g, j, none⟩ = some (.string (ls.getD j ByteArray.empty)) := by
  have hl : ls.length = n := by have := h.1; simpa using this
  obtain ⟨g, cap', hv, _⟩ := World.ownsRow.form h hn
  have e : ao = some ⟨g, 0, none⟩ := (show ao = some ⟨g, 0, none⟩ ∧ cap = cap' by simpa using hv).1
  subst e
  refine ⟨g, rfl, fun j hj => ?_⟩
  rw [World.ownsRow.cellAt h j (by omega), List.getElem?_map, List.getD_eq_getElem?_getD, List.getElem?_eq_getElem (by omega)]; rfl

/-- Line k of the whole is line k of the first part. -/
theorem pair_a {F : Interp} {w5 w : World} {p : Int} {IA IB : List (List Int)} {la lb b0 b1 b2 : Nat} {co lo po : Option Addr} {LA cA lo' po' : Nat} (hA : Code w5 b0 la co LA cA IA)
    (hall : Lines w b1 lo (la + lb) lo' (lines F p 0 (IA ++ IB))) (hpa : Lines w b2 po la po' (lines F p 0 IA)) :
    ∀ k, k < la → ∃ g1 g2 x, lo = some ⟨g1, 0, none⟩ ∧ po = some ⟨g2, 0, none⟩ ∧ w.cell? ⟨g1, k, none⟩ = some (.string x) ∧ w.cell? ⟨g2, k, none⟩ = some (.string x) := by
  intro k hk
  obtain ⟨g1, h1, c1⟩ := hall.form (by omega)
  obtain ⟨g2, h2, c2⟩ := hpa.form (by omega)
  refine ⟨g1, g2, _, h1, h2, ?_, c2 k hk⟩
  rw [c1 k (by omega), lines_append, List.getD_eq_getElem?_getD, List.getD_eq_getElem?_getD, List.getElem?_append_left (by rw [lines_len, hA.1]; exact hk)]
/-- Line la + k of the whole is line k of the second part. -/
theorem pair_b {F : Interp} {w5 w : World} {p : Int} {IA IB : List (List Int)} {la lb b0 b0' b1 b2 : Nat} {co do_ lo qo : Option Addr} {LA cA LB cB lo' qo' : Nat} (hA : Code w5 b0 la co LA cA IA) (hB : Code w5 b0' lb do_ LB cB IB)
    (hall : Lines w b1 lo (la + lb) lo' (lines F p 0 (IA ++ IB))) (hpb : Lines w b2 qo lb qo' (lines F (wrap64 (p + LA)) 0 IB)) :
    ∀ k, k < lb → ∃ g1 g3 x, lo = some ⟨g1, 0, none⟩ ∧ qo = some ⟨g3, 0, none⟩ ∧ w.cell? ⟨g1, la + k, none⟩ = some (.string x) ∧ w.cell? ⟨g3, k, none⟩ = some (.string x) := by
  intro k hk
  obtain ⟨g1, h1, c1⟩ := hall.form (by omega)
  obtain ⟨g3, h3, c3⟩ := hpb.form (by omega)
  refine ⟨g1, g3, _, h1, h3, ?_, c3 k hk⟩
  have _ := hB
  rw [c1 (la + k) (by omega), lines_append, List.getD_eq_getElem?_getD, List.getD_eq_getElem?_getD, List.getElem?_append_right (by rw [lines_len, hA.1]; omega), lines_len, hA.1, Nat.add_sub_cancel_left, w64, lines_shift, hA.2.2.1, Nat.zero_add, Nat.add_zero]

set_option maxHeartbeats 4000000 in
theorem split_small (F : Interp) (w : World) (hF : F.answers w.tape) (hT : Tab w) (hN : Names w) (a b c : Option Addr) (la ca lb cb lc cc : Nat) (p : Int) (os ot az : List Int)
    (h0 : la + lb + lc ≤ 1048576) (h1 : la + lb + 8 * lc ≤ 1048576) (h2 : la ≤ 65536) (h3 : lb ≤ 65536) (h4 : lc ≤ 65536) (ho : SliceOf .u8 w a la ca os) (hob : ∀ z ∈ os, 0 ≤ z ∧ z ≤ 255) (hp : SliceOf .u8 w b lb cb ot) (hpb : ∀ z ∈ ot, 0 ≤ z ∧ z ≤ 255) (ha : SliceOf .i64 w c lc cc az) :
    Calls Eeug.prog 4 #[.slice a la ca, .slice b lb cb, .slice c lc cc, .int .i64 p] w fun e w' => e = .returned (.bool true) ∧ Below w.heap.size w w' := by
  obtain ⟨i0, hi, hz0, hz1, hz2⟩ := info_parts info5c
  go_enter Eeug.func4, Eeug.ntmps4
  go_wp2_with fail
  refine (bytes4_yes w a b c la ca lb cb lc cc p h0).mono ?_
  rintro e w' ⟨rfl, rfl⟩
  go_wp2_with fail
  refine (sane w hT).mono ?_
  rintro e w' ⟨rfl, rfl⟩
  go_wp2_with fail
  refine (clone7_any w a la ca os h2 ho).mono ?_
  rintro e w1 ⟨a1, c1, rfl, ho1, hB1⟩
  go_wp2_with fail
  refine (clone7_any w1 b lb cb ot h3 (hp.later hB1)).mono ?_
  rintro e w2 ⟨b1, d1, rfl, hp2, hB2⟩
  have hBB2 : Below w.heap.size w w2 := hB1.trans (hB2.mono hB1.size)
  go_wp2_with fail
  refine (clone8_any w2 c lc cc az h4 (ha.later hBB2)).mono ?_
  rintro e w3 ⟨e1, f1, rfl, ha3, hB3⟩
  have hBB3 : Below w.heap.size w w3 := hBB2.trans (hB3.mono hBB2.size)
  have ho3 := (ho1.later hB2).later hB3
  have hp3 := hp2.later hB3
  clear ho hp ha ho1 hp2
  go_wp2_with fail
  refine (asm_any w3 (hT.later hBB3) a1 la c1 e1 lc f1 os az 0 h2 h4 (by omega) ho3 hob ha3).mono ?_
  rintro e w4 ⟨IA, nx, co, LA, cA, rfl, hnx, hCA, hB4⟩
  have hBB4 : Below w.heap.size w w4 := hBB3.trans (hB4.mono hBB3.size)
  go_wp2_with fail
  refine (asm_any w4 (hT.later hBB4) b1 lb d1 e1 lc f1 ot az nx h3 h4 (by omega) (hp3.later hB4) hpb (ha3.later hB4)).mono ?_
  rintro e w5 ⟨IB, ny, do_, LB, cB, rfl, hny, hCB, hB5⟩
  have hBB5 : Below w.heap.size w w5 := hBB4.trans (hB5.mono hBB4.size)
  have hCA5 := hCA.later hB5
  have hlA := hCA5.len
  have hlB := hCB.len
  clear ho3 hp3 ha3 hCA hob hpb hB1 hB2 hB3 hB4 hB5 hBB2 hBB3 hBB4 hny hnx
  have KA := hide hCA5
  have KB := hide hCB
  clear hCA5 hCB
  have hs5 := hBB5.size
  go_wp2_with (first
    | (at_make; refine wpList_make_own _ rfl _ _ 22 rfl w5.heap.size 5 i0 (.int .u8 0) 1 Eeug.underlying22 hi hz0 hz1 _ _ _ (LA + LB) rfl rfl (by omega) (by rw [hz2]; omega) (by unfold maxLen; omega) (Nat.le_refl _) ?_; intro w6 hown6 hgrow6; have hB6 : Below w5.heap.size w5 w6 := (Below.refl _ w5).grown hgrow6 (Nat.le_refl _) (by intro k hk; cases hk); clear hgrow6)
    | (at_builtin; refine wpList_append_fits_any _ rfl (.tmp 71) (.tmp 72) 22 rfl w5.heap.size 5 i0 1 Eeug.underlying22 hi hz1 w5.heap.size 0 (LA + LB) [] rfl hown6 co LA cA (IA.flatten.map (Value.int .u8)) rfl (by rw [List.length_map, (unhide KA).2.2.1]; omega) (unhide KA).2.2.2.1 ((unhide KA).later hB6).cells (u8_cells _) (by omega) ?_; intro w7 hown7 hgrow7; have hB7 : Below w5.heap.size w5 w7 := hB6.grown hgrow7 hB6.size (by intro k hk; have hk := Option.some.inj hk; omega); simp only [Nat.zero_add, List.nil_append] at hown7 ⊢; clear hgrow7 hown6)
    | (at_builtin; refine wpList_append_fits_any _ rfl (.tmp 74) (.tmp 75) 22 rfl w5.heap.size 5 i0 1 Eeug.underlying22 hi hz1 w5.heap.size LA (LA + LB) _ rfl hown7 do_ LB cB (IB.flatten.map (Value.int .u8)) rfl (by rw [List.length_map, (unhide KB).2.2.1]; omega) (unhide KB).2.2.2.1 ((unhide KB).later hB7).cells (u8_cells _) (by omega) ?_; intro w8 hown8 hgrow8; have hB8 : Below w5.heap.size w5 w8 := hB7.grown hgrow8 hB7.size (by intro k hk; have hk := Option.some.inj hk; omega); clear hgrow8 hown7))
  have hBB8 : Below w.heap.size w w8 := hBB5.trans (hB8.mono hs5)
  have hC8 := Code.both (unhide KA).1 (unhide KB).1 (unhide KA).2.1 (unhide KB).2.1 (by rw [(unhide KA).2.2.1, (unhide KB).2.2.1]) hown8
  refine (list_any F w8 (tape_of hBB8 hF) (hT.later hBB8) (hN.later hBB8) w5.heap.size (la + lb) _ _ _ p (IA ++ IB) (by omega) hC8).mono ?_
  rintro e w9 ⟨lo, lo', rfl, hL9, hB9⟩
  have hBB9 : Below w.heap.size w w9 := hBB8.trans (hB9.mono hBB8.size)
  have hCA9 := ((unhide KA).later hB8).later hB9
  have hCB9 := ((unhide KB).later hB8).later hB9
  have HL9 := hide hL9
  clear hC8 hown8 hL9
  go_wp2_with fail
  refine (list_any F w9 (tape_of hBB9 hF) (hT.later hBB9) (hN.later hBB9) _ la co LA cA p IA (by omega) hCA9).mono ?_
  rintro e w10 ⟨po, po', rfl, hL10, hB10⟩
  have hBB10 : Below w.heap.size w w10 := hBB9.trans (hB10.mono hBB9.size)
  have hCB10 := hCB9.later hB10
  have HL10 := hide hL10
  clear hCA9 hCB9 hL10
  go_wp2_with fail
  refine (list_any F w10 (tape_of hBB10 hF) (hT.later hBB10) (hN.later hBB10) _ lb do_ LB cB _ IB (by omega) hCB10).mono ?_
  rintro e w11 ⟨qo, qo', rfl, hL11, hB11⟩
  have hBB11 : Below w.heap.size w w11 := hBB10.trans (hB11.mono hBB10.size)
  have hall := ((unhide HL9).later hB10).later hB11
  have hpa := (unhide HL10).later hB11
  have HA := hide (pair_a (unhide KA) hall hpa)
  have HB := hide (pair_b (unhide KA) (unhide KB) hall hL11)
  clear hall hpa hL11 HL9 HL10 hCB10 hT hN KA KB hB6 hB7 hB8 hBB8 hB9 hBB9 hB10 hBB10 hB11 hBB5 hs5 hlA hlB hi hz0 hz1 hz2 hF h0 h1
  go_wp2_with fail
  go_loopw [17] (fun i wr => ∃ k m : Nat, k ≤ la ∧ i = .int .i64 k ∧ wr = w11.drewN m) (fun i _ => la - (intOf i).toNat)
  case atStart => exact ⟨0, 0, Nat.zero_le _, rfl, rfl⟩
  case round =>
    obtain ⟨k, m, hk, rfl, rfl⟩ := hrel
    by_cases hlt : k < la
    · obtain ⟨g1, g2, x, rfl, rfl, hx1, hx2⟩ := unhide HA k hlt
      have hi1 : (k : Int) < (la : Int) + (lb : Int) := by omega
      have hi2 : (k : Int) < (la : Int) := by omega
      go_wp2_with fail
      go_quiet (fail)
      go_wp2_with fail
      go_roundw
      case rel => exact ⟨k + 1, m + nq, by omega, by go_num, rfl⟩
      case measure => simp [intOf]; omega
    · go_wp2_with fail
      go_loopw [18] (fun i wr => ∃ k m : Nat, k ≤ lb ∧ i = .int .i64 k ∧ wr = w11.drewN m) (fun i _ => lb - (intOf i).toNat)
      case atStart => exact ⟨0, m, Nat.zero_le _, rfl, rfl⟩
      case round =>
        obtain ⟨k, m, hk, rfl, rfl⟩ := hrel
        by_cases hlt : k < lb
        · obtain ⟨g1, g3, x, rfl, rfl, hx1, hx2⟩ := unhide HB k hlt
          have hi1 : (la : Int) + (k : Int) < (la : Int) + (lb : Int) := by omega
          have hi2 : (k : Int) < (lb : Int) := by omega
          go_wp2_with fail
          go_quiet (fail)
          go_wp2_with fail
          go_roundw
          case rel => exact ⟨k + 1, m + nq, by omega, by go_num, rfl⟩
          case measure => simp [intOf]; omega
        · go_wp2_with fail
          go_ret
          exact ⟨rfl, below_drewN hBB11 _⟩
end Go.Proofs.YoeeuwFmt

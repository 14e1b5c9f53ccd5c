/-
  OUR OWN. The walks of FnFormatInstructionsOneLinePerInstruction.
-/
import Derived.Test.YoeeuwFmtParts
namespace Go.Proofs.YoeeuwFmt
open Go.RowKit Go.Extern.Stop Go.Stop Go.Extern

set_option maxHeartbeats 800000 in
theorem one_big (w : World) (a : Option Addr) (n ca : Nat) (b : Option Addr) (m cb : Nat) (p : Int) (h : 1048576 < n + m) (hn : n ≤ maxLen) (hm : m ≤ maxLen) :
    Calls Eeug.prog 3 #[.slice a n ca, .slice b m cb, .int .i64 p] w fun e w' => e = .returned (.bool true) ∧ Below w.heap.size w w' := by
  go_enter Eeug.func3, Eeug.ntmps3
  go_wp2_with fail
  refine (bytes3_no w a b n ca m cb p h hn hm).mono ?_
  rintro e w' ⟨rfl, rfl⟩
  go_wp2_with fail
  go_ret
  exact ⟨rfl, Below.refl _ _⟩

set_option maxHeartbeats 800000 in
theorem one_mid (w : World) (a : Option Addr) (n ca : Nat) (b : Option Addr) (m cb : Nat) (p : Int) (h0 : n + m ≤ 1048576) (h : 1048576 < n + 8 * m ∨ 65536 < n ∨ 65536 < m) :
    Calls Eeug.prog 3 #[.slice a n ca, .slice b m cb, .int .i64 p] w fun e w' => e = .returned (.bool true) ∧ Below w.heap.size w w' := by
  by_cases h1 : 1048576 < n + 8 * m
  · go_enter Eeug.func3, Eeug.ntmps3
    go_wp2_with fail
    refine (bytes3_yes w a b n ca m cb p h0).mono ?_
    rintro e w' ⟨rfl, rfl⟩
    go_wp2_with fail
    go_ret
    exact ⟨rfl, Below.refl _ _⟩
  by_cases h2 : 65536 < n
  · go_enter Eeug.func3, Eeug.ntmps3
    go_wp2_with fail
    refine (bytes3_yes w a b n ca m cb p h0).mono ?_
    rintro e w' ⟨rfl, rfl⟩
    go_wp2_with fail
    go_ret
    exact ⟨rfl, Below.refl _ _⟩
  have h3 : 65536 < m := by omega
  clear h
  go_enter Eeug.func3, Eeug.ntmps3
  go_wp2_with fail
  refine (bytes3_yes w a b n ca m cb p h0).mono ?_
  rintro e w' ⟨rfl, rfl⟩
  go_wp2_with fail
  go_ret
  exact ⟨rfl, Below.refl _ _⟩

set_option maxHeartbeats 1600000 in
theorem one_small (F : Interp) (w : World) (hF : F.answers w.tape) (hT : Tab w) (hN : Names w) (a : Option Addr) (n ca : Nat) (b : Option Addr) (m cb : Nat) (p : Int) (os az : List Int)
    (h0 : n + m ≤ 1048576) (h1 : n + 8 * m ≤ 1048576) (h2 : n ≤ 65536) (h3 : m ≤ 65536) (ho : SliceOf .u8 w a n ca os) (hob : ∀ z ∈ os, 0 ≤ z ∧ z ≤ 255) (ha : SliceOf .i64 w b m cb az) :
    Calls Eeug.prog 3 #[.slice a n ca, .slice b m cb, .int .i64 p] w fun e w' => e = .returned (.bool true) ∧ Below w.heap.size w w' := by
  go_enter Eeug.func3, Eeug.ntmps3
  go_wp2_with fail
  refine (bytes3_yes w a b n ca m cb p h0).mono ?_
  rintro e w' ⟨rfl, rfl⟩
  go_wp2_with fail
  refine (sane w hT).mono ?_
  rintro e w' ⟨rfl, rfl⟩
  go_wp2_with fail
  refine (clone7_any w a n ca os h2 ho).mono ?_
  rintro e w1 ⟨a1, c1, rfl, ho1, hB1⟩
  go_wp2_with fail
  refine (clone8_any w1 b m cb az h3 (ha.later hB1)).mono ?_
  rintro e w2 ⟨b1, d1, rfl, ha2, hB2⟩
  have hBB2 : Below w.heap.size w w2 := hB1.trans (hB2.mono hB1.size)
  go_wp2_with fail
  refine (asm_any w2 (hT.later hBB2) a1 n c1 b1 m d1 os az 0 h2 h3 (by omega) (ho1.later hB2) hob ha2).mono ?_
  rintro e w3 ⟨I, nx, co, L, cap, rfl, hnx, hC, hB3⟩
  have hBB3 : Below w.heap.size w w3 := hBB2.trans (hB3.mono hBB2.size)
  go_wp2_with fail
  refine (list_any F w3 (tape_of hBB3 hF) (hT.later hBB3) (hN.later hBB3) w2.heap.size n co L cap p I (by omega) hC).mono ?_
  rintro e w4 ⟨lo, lc, rfl, hL, hB4⟩
  have hBB4 : Below w.heap.size w w4 := hBB3.trans (hB4.mono hBB3.size)
  clear hT hN ho hob ha ho1 ha2 hC hL
  go_wp2_with fail
  go_ret
  exact ⟨rfl, hBB4⟩
end Go.Proofs.YoeeuwFmt

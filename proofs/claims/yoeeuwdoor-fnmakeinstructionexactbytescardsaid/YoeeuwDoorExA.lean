/-
  OUR OWN. The walks of FnMakeInstructionExactBytes: one a shape of the opcode's row and a count k of operands. By program (wip/gen/gen_ex.py).
-/
import Derived.Test.YoeeuwDoorMk
import Derived.Test.YoeeuwDoorNum
import Derived.Deep.QuietTactic
import Derived.BigQuiet
namespace Go.Proofs.YoeeuwDoor
open Go.RowKit

set_option maxHeartbeats 1600000 in
theorem ex_e_0 (i : Nat) (hi : i < 42) (w : World) (h0 : 0 < w.heap.size) (ao : Option Addr) (cap : Nat) (hr : w.cell? ⟨0, i, none⟩ = some (.slice ao 0 cap)) (x y : Int) :
    Calls Eeug.prog 3 #[.int .u8 i, .int .i64 0, .int .i64 x, .int .i64 y] w fun e w' => e = .returned (.bool true) ∧ Below w.heap.size w w' := by
  have hmk : ∀ w : World, (Instr.makeSlice 22 (.int .i64 0) (.int .i64 2)).run Eeug.prog w = .ok (.slice (some ⟨w.heap.size, 0, none⟩) 0 2) (w.alloc (.cells #[.int .i64 0, .int .i64 0] 3)) := fun _ => by kernel_rfl
  go_enter Eeug.func3, Eeug.ntmps3
  go_wp2_with fail
  refine wp_loop_rounds 1 ?_
  rw [rounds_succ]
  go_wp2_with fail
  refine (mk_e_0 i hi _ ao cap ?_ _ 2).mono ?_
  · go_side
  rintro e w' ⟨rfl, rfl⟩
  go_wp2_with fail
  refine wp_loop_rounds 1 ?_
  rw [rounds_succ]
  go_wp2_with fail
  go_ret
  refine ⟨rfl, ?_⟩
  go_grown

set_option maxHeartbeats 1600000 in
theorem ex_1_0 (i : Nat) (hi : i < 42) (w : World) (h0 : 0 < w.heap.size) (b off cap : Nat) (hr : w.cell? ⟨0, i, none⟩ = some (.slice (some ⟨b, off, none⟩) 1 cap)) (hc0 : w.cell? ⟨b, off, none⟩ = some (.int .i64 1)) (hb : b < w.heap.size) (x y : Int) :
    Calls Eeug.prog 3 #[.int .u8 i, .int .i64 0, .int .i64 x, .int .i64 y] w fun e w' => e = .returned (.bool true) ∧ Below w.heap.size w w' := by
  have hmk : ∀ w : World, (Instr.makeSlice 22 (.int .i64 0) (.int .i64 2)).run Eeug.prog w = .ok (.slice (some ⟨w.heap.size, 0, none⟩) 0 2) (w.alloc (.cells #[.int .i64 0, .int .i64 0] 3)) := fun _ => by kernel_rfl
  have hb1 : b < w.heap.size + 1 := by omega
  go_enter Eeug.func3, Eeug.ntmps3
  go_wp2_with fail
  refine wp_loop_rounds 2 ?_
  rw [rounds_succ]
  go_wp2_with (go_at_call 5; refine (width1 _).mono ?_; rintro e w' ⟨rfl, rfl⟩)
  rw [rounds_succ]
  go_wp2_with fail
  refine (mk_1_0 i hi _ b off cap ?_ ?_ _ 2).mono ?_
  · go_side
  · go_side
  rintro e w' ⟨rfl, rfl⟩
  go_wp2_with fail
  refine wp_loop_rounds 2 ?_
  rw [rounds_succ]
  go_wp2_with fail
  refine wp_loop_rounds 2 ?_
  rw [rounds_succ]
  go_wp2_with fail
  rw [rounds_succ]
  go_wp2_with fail
  rw [rounds_succ]
  go_wp2_with fail
  go_ret
  refine ⟨rfl, ?_⟩
  go_grown

set_option maxHeartbeats 1600000 in
theorem ex_1_1 (i : Nat) (hi : i < 42) (w : World) (h0 : 0 < w.heap.size) (b off cap : Nat) (hr : w.cell? ⟨0, i, none⟩ = some (.slice (some ⟨b, off, none⟩) 1 cap)) (hc0 : w.cell? ⟨b, off, none⟩ = some (.int .i64 1)) (hb : b < w.heap.size) (x y : Int) :
    Calls Eeug.prog 3 #[.int .u8 i, .int .i64 1, .int .i64 x, .int .i64 y] w fun e w' => e = .returned (.bool true) ∧ Below w.heap.size w w' := by
  have hmk : ∀ w : World, (Instr.makeSlice 22 (.int .i64 0) (.int .i64 2)).run Eeug.prog w = .ok (.slice (some ⟨w.heap.size, 0, none⟩) 0 2) (w.alloc (.cells #[.int .i64 0, .int .i64 0] 3)) := fun _ => by kernel_rfl
  have hq0 := bytes1 x
  have hb1 : b < w.heap.size + 1 := by omega
  have hb2 : b < w.heap.size + 1 + 1 := by omega
  go_enter Eeug.func3, Eeug.ntmps3
  go_wp2_with fail
  refine wp_loop_rounds 2 ?_
  rw [rounds_succ]
  go_wp2_with (go_at_call 5; refine (width1 _).mono ?_; rintro e w' ⟨rfl, rfl⟩)
  rw [rounds_succ]
  go_wp2_with fail
  refine (mk_1_1 i hi _ b off cap ?_ ?_ ?_ _ 0 2 x ?_ ?_).mono ?_
  · go_side
  · go_side
  · go_side
  · go_side
  · go_side
  rintro e w' ⟨rfl, rfl⟩
  go_wp2_with fail
  refine wp_loop_rounds 2 ?_
  rw [rounds_succ]
  go_wp2_with fail
  refine wp_loop_rounds 2 ?_
  rw [rounds_succ]
  go_wp2_with fail
  rw [rounds_succ]
  go_wp2_with fail
  go_quiet ((go_at_call 7; exact (mod1 _).mono (fun _ _ h => ⟨h.1, _, h.2⟩)))
  go_wp2_with fail
  rw [rounds_succ]
  go_wp2_with fail
  go_ret
  refine ⟨rfl, ?_⟩
  refine below_drewN ?_ _
  go_grown

set_option maxHeartbeats 1600000 in
theorem ex_2_0 (i : Nat) (hi : i < 42) (w : World) (h0 : 0 < w.heap.size) (b off cap : Nat) (hr : w.cell? ⟨0, i, none⟩ = some (.slice (some ⟨b, off, none⟩) 1 cap)) (hc0 : w.cell? ⟨b, off, none⟩ = some (.int .i64 2)) (hb : b < w.heap.size) (x y : Int) :
    Calls Eeug.prog 3 #[.int .u8 i, .int .i64 0, .int .i64 x, .int .i64 y] w fun e w' => e = .returned (.bool true) ∧ Below w.heap.size w w' := by
  have hmk : ∀ w : World, (Instr.makeSlice 22 (.int .i64 0) (.int .i64 2)).run Eeug.prog w = .ok (.slice (some ⟨w.heap.size, 0, none⟩) 0 2) (w.alloc (.cells #[.int .i64 0, .int .i64 0] 3)) := fun _ => by kernel_rfl
  have hb1 : b < w.heap.size + 1 := by omega
  go_enter Eeug.func3, Eeug.ntmps3
  go_wp2_with fail
  refine wp_loop_rounds 2 ?_
  rw [rounds_succ]
  go_wp2_with (go_at_call 5; refine (width2 _).mono ?_; rintro e w' ⟨rfl, rfl⟩)
  rw [rounds_succ]
  go_wp2_with fail
  refine (mk_2_0 i hi _ b off cap ?_ ?_ _ 2).mono ?_
  · go_side
  · go_side
  rintro e w' ⟨rfl, rfl⟩
  go_wp2_with fail
  refine wp_loop_rounds 2 ?_
  rw [rounds_succ]
  go_wp2_with fail
  refine wp_loop_rounds 3 ?_
  rw [rounds_succ]
  go_wp2_with fail
  rw [rounds_succ]
  go_wp2_with fail
  rw [rounds_succ]
  go_wp2_with fail
  rw [rounds_succ]
  go_wp2_with fail
  go_ret
  refine ⟨rfl, ?_⟩
  go_grown

set_option maxHeartbeats 1600000 in
theorem ex_2_1 (i : Nat) (hi : i < 42) (w : World) (h0 : 0 < w.heap.size) (b off cap : Nat) (hr : w.cell? ⟨0, i, none⟩ = some (.slice (some ⟨b, off, none⟩) 1 cap)) (hc0 : w.cell? ⟨b, off, none⟩ = some (.int .i64 2)) (hb : b < w.heap.size) (x y : Int) :
    Calls Eeug.prog 3 #[.int .u8 i, .int .i64 1, .int .i64 x, .int .i64 y] w fun e w' => e = .returned (.bool true) ∧ Below w.heap.size w w' := by
  have hmk : ∀ w : World, (Instr.makeSlice 22 (.int .i64 0) (.int .i64 2)).run Eeug.prog w = .ok (.slice (some ⟨w.heap.size, 0, none⟩) 0 2) (w.alloc (.cells #[.int .i64 0, .int .i64 0] 3)) := fun _ => by kernel_rfl
  have hq0 := bytes2 x
  have hb1 : b < w.heap.size + 1 := by omega
  have hb2 : b < w.heap.size + 1 + 1 := by omega
  go_enter Eeug.func3, Eeug.ntmps3
  go_wp2_with fail
  refine wp_loop_rounds 2 ?_
  rw [rounds_succ]
  go_wp2_with (go_at_call 5; refine (width2 _).mono ?_; rintro e w' ⟨rfl, rfl⟩)
  rw [rounds_succ]
  go_wp2_with fail
  refine (mk_2_1 i hi _ b off cap ?_ ?_ ?_ _ 0 2 x ?_ ?_).mono ?_
  · go_side
  · go_side
  · go_side
  · go_side
  · go_side
  rintro e w' ⟨rfl, rfl⟩
  go_wp2_with fail
  refine wp_loop_rounds 2 ?_
  rw [rounds_succ]
  go_wp2_with fail
  refine wp_loop_rounds 3 ?_
  rw [rounds_succ]
  go_wp2_with fail
  rw [rounds_succ]
  go_wp2_with fail
  rw [rounds_succ]
  go_wp2_with fail
  go_quiet ((go_at_call 7; exact (mod2 _).mono (fun _ _ h => ⟨h.1, _, h.2⟩)))
  go_wp2_with fail
  rw [rounds_succ]
  go_wp2_with fail
  go_ret
  refine ⟨rfl, ?_⟩
  refine below_drewN ?_ _
  go_grown

set_option maxHeartbeats 1600000 in
theorem ex_4_0 (i : Nat) (hi : i < 42) (w : World) (h0 : 0 < w.heap.size) (b off cap : Nat) (hr : w.cell? ⟨0, i, none⟩ = some (.slice (some ⟨b, off, none⟩) 1 cap)) (hc0 : w.cell? ⟨b, off, none⟩ = some (.int .i64 4)) (hb : b < w.heap.size) (x y : Int) :
    Calls Eeug.prog 3 #[.int .u8 i, .int .i64 0, .int .i64 x, .int .i64 y] w fun e w' => e = .returned (.bool true) ∧ Below w.heap.size w w' := by
  have hmk : ∀ w : World, (Instr.makeSlice 22 (.int .i64 0) (.int .i64 2)).run Eeug.prog w = .ok (.slice (some ⟨w.heap.size, 0, none⟩) 0 2) (w.alloc (.cells #[.int .i64 0, .int .i64 0] 3)) := fun _ => by kernel_rfl
  have hb1 : b < w.heap.size + 1 := by omega
  go_enter Eeug.func3, Eeug.ntmps3
  go_wp2_with fail
  refine wp_loop_rounds 2 ?_
  rw [rounds_succ]
  go_wp2_with (go_at_call 5; refine (width4 _).mono ?_; rintro e w' ⟨rfl, rfl⟩)
  rw [rounds_succ]
  go_wp2_with fail
  refine (mk_4_0 i hi _ b off cap ?_ ?_ _ 2).mono ?_
  · go_side
  · go_side
  rintro e w' ⟨rfl, rfl⟩
  go_wp2_with fail
  refine wp_loop_rounds 2 ?_
  rw [rounds_succ]
  go_wp2_with fail
  refine wp_loop_rounds 5 ?_
  rw [rounds_succ]
  go_wp2_with fail
  rw [rounds_succ]
  go_wp2_with fail
  rw [rounds_succ]
  go_wp2_with fail
  rw [rounds_succ]
  go_wp2_with fail
  rw [rounds_succ]
  go_wp2_with fail
  rw [rounds_succ]
  go_wp2_with fail
  go_ret
  refine ⟨rfl, ?_⟩
  go_grown

set_option maxHeartbeats 1600000 in
theorem ex_4_1 (i : Nat) (hi : i < 42) (w : World) (h0 : 0 < w.heap.size) (b off cap : Nat) (hr : w.cell? ⟨0, i, none⟩ = some (.slice (some ⟨b, off, none⟩) 1 cap)) (hc0 : w.cell? ⟨b, off, none⟩ = some (.int .i64 4)) (hb : b < w.heap.size) (x y : Int) :
    Calls Eeug.prog 3 #[.int .u8 i, .int .i64 1, .int .i64 x, .int .i64 y] w fun e w' => e = .returned (.bool true) ∧ Below w.heap.size w w' := by
  have hmk : ∀ w : World, (Instr.makeSlice 22 (.int .i64 0) (.int .i64 2)).run Eeug.prog w = .ok (.slice (some ⟨w.heap.size, 0, none⟩) 0 2) (w.alloc (.cells #[.int .i64 0, .int .i64 0] 3)) := fun _ => by kernel_rfl
  have hq0 := bytes4 x
  have hb1 : b < w.heap.size + 1 := by omega
  have hb2 : b < w.heap.size + 1 + 1 := by omega
  go_enter Eeug.func3, Eeug.ntmps3
  go_wp2_with fail
  refine wp_loop_rounds 2 ?_
  rw [rounds_succ]
  go_wp2_with (go_at_call 5; refine (width4 _).mono ?_; rintro e w' ⟨rfl, rfl⟩)
  rw [rounds_succ]
  go_wp2_with fail
  refine (mk_4_1 i hi _ b off cap ?_ ?_ ?_ _ 0 2 x ?_ ?_).mono ?_
  · go_side
  · go_side
  · go_side
  · go_side
  · go_side
  rintro e w' ⟨rfl, rfl⟩
  go_wp2_with fail
  refine wp_loop_rounds 2 ?_
  rw [rounds_succ]
  go_wp2_with fail
  refine wp_loop_rounds 5 ?_
  rw [rounds_succ]
  go_wp2_with fail
  rw [rounds_succ]
  go_wp2_with fail
  rw [rounds_succ]
  go_wp2_with fail
  rw [rounds_succ]
  go_wp2_with fail
  rw [rounds_succ]
  go_wp2_with fail
  go_quiet ((go_at_call 7; exact (mod4 _).mono (fun _ _ h => ⟨h.1, _, h.2⟩)))
  go_wp2_with fail
  rw [rounds_succ]
  go_wp2_with fail
  go_ret
  refine ⟨rfl, ?_⟩
  refine below_drewN ?_ _
  go_grown

set_option maxHeartbeats 400000 in
theorem ex_past (i : Int) (hi : 42 ≤ i) (hj : i ≤ 255) (w : World) (k x y : Int) :
    Calls Eeug.prog 3 #[.int .u8 i, .int .i64 k, .int .i64 x, .int .i64 y] w fun e w' => e = .returned (.bool true) ∧ Below w.heap.size w w' := by
  go_enter Eeug.func3, Eeug.ntmps3
  go_wp2
  go_ret
  exact ⟨rfl, Below.refl _ _⟩

set_option maxHeartbeats 400000 in
theorem ex_less (i : Nat) (hi : i < 42) (w : World) (ao : Option Addr) (n cap : Nat) (hn : n ≤ 2) (hr : w.cell? ⟨0, i, none⟩ = some (.slice ao n cap)) (k x y : Int) (hk : k < 0) :
    Calls Eeug.prog 3 #[.int .u8 i, .int .i64 k, .int .i64 x, .int .i64 y] w fun e w' => e = .returned (.bool true) ∧ Below w.heap.size w w' := by
  go_enter Eeug.func3, Eeug.ntmps3
  go_wp2
  go_ret
  exact ⟨rfl, Below.refl _ _⟩

set_option maxHeartbeats 400000 in
theorem ex_more (i : Nat) (hi : i < 42) (w : World) (ao : Option Addr) (n cap : Nat) (hn : n ≤ 2) (hr : w.cell? ⟨0, i, none⟩ = some (.slice ao n cap)) (k x y : Int) (hk : (n : Int) < k) :
    Calls Eeug.prog 3 #[.int .u8 i, .int .i64 k, .int .i64 x, .int .i64 y] w fun e w' => e = .returned (.bool true) ∧ Below w.heap.size w w' := by
  have hk0 : ¬ k < 0 := by omega
  go_enter Eeug.func3, Eeug.ntmps3
  go_wp2
  go_ret
  exact ⟨rfl, Below.refl _ _⟩

end Go.Proofs.YoeeuwDoor

/-
  OUR OWN. The walks of FnMakeInstructionReadOperandsRoundTrip: one a shape of the opcode's row; the early returns apart. By program (wip/gen/gen_rt.py).
-/
import Derived.Test.YoeeuwDoorRtA
import Derived.Deep.QuietTactic
import Derived.BigQuiet
namespace Go.Proofs.YoeeuwDoor
open Go.RowKit

set_option maxHeartbeats 1600000 in
theorem rt_e_full (i : Nat) (hi : i < 42) (w : World) (h0 : 0 < w.heap.size) (ao : Option Addr) (cap : Nat) (hr : w.cell? ⟨0, i, none⟩ = some (.slice ao 0 cap)) (x y : Int) :
    Calls Eeug.prog 4 #[.int .u8 i, .int .i64 x, .int .i64 y] w fun e w' => e = .returned (.bool true) ∧ Below w.heap.size w w' := by
  have hmk : ∀ w : World, (Instr.makeSlice 22 (.int .i64 0) (.int .i64 2)).run Eeug.prog w = .ok (.slice (some ⟨w.heap.size, 0, none⟩) 0 2) (w.alloc (.cells #[.int .i64 0, .int .i64 0] 3)) := fun _ => by kernel_rfl
  go_enter Eeug.func4, Eeug.ntmps4
  go_wp2_with fail
  refine wp_loop_rounds 1 ?_
  rw [rounds_succ]
  go_wp2_with fail
  refine (mk_e_0 i hi _ ao cap ?_ _ 2).mono ?_
  · go_side
  rintro e w' ⟨rfl, rfl⟩
  go_wp2_with fail
  refine (rd_e _ ao cap _).mono ?_
  rintro e w' ⟨rfl, rfl⟩
  go_wp2_with fail
  refine wp_loop_rounds 1 ?_
  rw [rounds_succ]
  go_wp2_with fail
  go_ret
  refine ⟨rfl, ?_⟩
  go_grown

set_option maxHeartbeats 1600000 in
theorem rt_1_full (i : Nat) (hi : i < 42) (w : World) (h0 : 0 < w.heap.size) (b off cap : Nat) (hr : w.cell? ⟨0, i, none⟩ = some (.slice (some ⟨b, off, none⟩) 1 cap)) (hc0 : w.cell? ⟨b, off, none⟩ = some (.int .i64 1)) (hb : b < w.heap.size) (x y : Int) (hx0 : 0 ≤ x ∧ x < 256) :
    Calls Eeug.prog 4 #[.int .u8 i, .int .i64 x, .int .i64 y] w fun e w' => e = .returned (.bool true) ∧ Below w.heap.size w w' := by
  have hmk : ∀ w : World, (Instr.makeSlice 22 (.int .i64 0) (.int .i64 2)).run Eeug.prog w = .ok (.slice (some ⟨w.heap.size, 0, none⟩) 0 2) (w.alloc (.cells #[.int .i64 0, .int .i64 0] 3)) := fun _ => by kernel_rfl
  have hu0 := u64_in x (by omega) (by omega)
  have hl0 : ¬ x < 0 := by omega
  have hk0 : x < 256 := by omega
  have hb1 : b < w.heap.size + 1 := by omega
  have hb2 : b < w.heap.size + 1 + 1 := by omega
  go_enter Eeug.func4, Eeug.ntmps4
  go_wp2_with fail
  refine wp_loop_rounds 2 ?_
  rw [rounds_succ]
  go_wp2_with (go_at_call 5; refine (width1 _).mono ?_; rintro e w' ⟨rfl, rfl⟩)
  rw [rounds_succ]
  go_wp2_with (first | (go_at_call_of 7 (Value.int IntKind.i64 1); refine (mods1 _).mono ?_; rintro e w' ⟨rfl, rfl⟩))
  refine (mk_1_1 i hi _ b off cap ?_ ?_ ?_ _ 0 2 x ?_ ?_).mono ?_
  · go_side
  · go_side
  · go_side
  · go_side
  · go_side
  rintro e w' ⟨rfl, rfl⟩
  go_wp2_with fail
  refine (rd_1 _ b off cap ?_ ?_ _ 1 1 1 (by decide) ?_ x (by omega) ?_).mono ?_
  · go_side
  · go_side
  · go_side
  · first | go_side | (simp; omega)
  rintro e w' ⟨g, cp, rfl, hg0, hlo, hlt, hB⟩
  have hold := old hB
  go_wp2_with fail
  refine wp_loop_rounds 2 ?_
  rw [rounds_succ]
  go_wp2_with fail
  go_quiet (fail)
  go_wp2_with fail
  rw [rounds_succ]
  go_wp2_with fail
  go_ret
  refine ⟨rfl, below_drewN ?_ _⟩
  refine Below.trans ?_ (hB.mono ?_)
  · go_grown
  · simp; omega

set_option maxHeartbeats 1600000 in
theorem rt_2_full (i : Nat) (hi : i < 42) (w : World) (h0 : 0 < w.heap.size) (b off cap : Nat) (hr : w.cell? ⟨0, i, none⟩ = some (.slice (some ⟨b, off, none⟩) 1 cap)) (hc0 : w.cell? ⟨b, off, none⟩ = some (.int .i64 2)) (hb : b < w.heap.size) (x y : Int) (hx0 : 0 ≤ x ∧ x < 65536) :
    Calls Eeug.prog 4 #[.int .u8 i, .int .i64 x, .int .i64 y] w fun e w' => e = .returned (.bool true) ∧ Below w.heap.size w w' := by
  have hmk : ∀ w : World, (Instr.makeSlice 22 (.int .i64 0) (.int .i64 2)).run Eeug.prog w = .ok (.slice (some ⟨w.heap.size, 0, none⟩) 0 2) (w.alloc (.cells #[.int .i64 0, .int .i64 0] 3)) := fun _ => by kernel_rfl
  have hu0 := u64_in x (by omega) (by omega)
  have hl0 : ¬ x < 0 := by omega
  have hk0 : x < 65536 := by omega
  have hb1 : b < w.heap.size + 1 := by omega
  have hb2 : b < w.heap.size + 1 + 1 := by omega
  go_enter Eeug.func4, Eeug.ntmps4
  go_wp2_with fail
  refine wp_loop_rounds 2 ?_
  rw [rounds_succ]
  go_wp2_with (go_at_call 5; refine (width2 _).mono ?_; rintro e w' ⟨rfl, rfl⟩)
  rw [rounds_succ]
  go_wp2_with (first | (go_at_call_of 7 (Value.int IntKind.i64 2); refine (mods2 _).mono ?_; rintro e w' ⟨rfl, rfl⟩))
  refine (mk_2_1 i hi _ b off cap ?_ ?_ ?_ _ 0 2 x ?_ ?_).mono ?_
  · go_side
  · go_side
  · go_side
  · go_side
  · go_side
  rintro e w' ⟨rfl, rfl⟩
  go_wp2_with fail
  refine (rd_2 _ b off cap ?_ ?_ _ 1 2 2 (by decide) ?_ (x / 256) (x % 256) (by omega) (by omega) ?_ ?_).mono ?_
  · go_side
  · go_side
  · go_side
  · first | go_side | (simp; omega)
  · first | go_side | (simp; omega)
  rintro e w' ⟨g, cp, rfl, hg0, hlo, hlt, hB⟩
  rw [show x / 256 * 256 + x % 256 = x by omega] at hg0
  have hold := old hB
  go_wp2_with fail
  refine wp_loop_rounds 2 ?_
  rw [rounds_succ]
  go_wp2_with fail
  go_quiet (fail)
  go_wp2_with fail
  rw [rounds_succ]
  go_wp2_with fail
  go_ret
  refine ⟨rfl, below_drewN ?_ _⟩
  refine Below.trans ?_ (hB.mono ?_)
  · go_grown
  · simp; omega

set_option maxHeartbeats 1600000 in
theorem rt_4_full (i : Nat) (hi : i < 42) (w : World) (h0 : 0 < w.heap.size) (b off cap : Nat) (hr : w.cell? ⟨0, i, none⟩ = some (.slice (some ⟨b, off, none⟩) 1 cap)) (hc0 : w.cell? ⟨b, off, none⟩ = some (.int .i64 4)) (hb : b < w.heap.size) (x y : Int) (hx0 : 0 ≤ x ∧ x < 4294967296) :
    Calls Eeug.prog 4 #[.int .u8 i, .int .i64 x, .int .i64 y] w fun e w' => e = .returned (.bool true) ∧ Below w.heap.size w w' := by
  have hmk : ∀ w : World, (Instr.makeSlice 22 (.int .i64 0) (.int .i64 2)).run Eeug.prog w = .ok (.slice (some ⟨w.heap.size, 0, none⟩) 0 2) (w.alloc (.cells #[.int .i64 0, .int .i64 0] 3)) := fun _ => by kernel_rfl
  have hu0 := u64_in x (by omega) (by omega)
  have hl0 : ¬ x < 0 := by omega
  have hk0 : x < 4294967296 := by omega
  have hb1 : b < w.heap.size + 1 := by omega
  have hb2 : b < w.heap.size + 1 + 1 := by omega
  go_enter Eeug.func4, Eeug.ntmps4
  go_wp2_with fail
  refine wp_loop_rounds 2 ?_
  rw [rounds_succ]
  go_wp2_with (go_at_call 5; refine (width4 _).mono ?_; rintro e w' ⟨rfl, rfl⟩)
  rw [rounds_succ]
  go_wp2_with (first | (go_at_call_of 7 (Value.int IntKind.i64 4); refine (mods4 _).mono ?_; rintro e w' ⟨rfl, rfl⟩))
  refine (mk_4_1 i hi _ b off cap ?_ ?_ ?_ _ 0 2 x ?_ ?_).mono ?_
  · go_side
  · go_side
  · go_side
  · go_side
  · go_side
  rintro e w' ⟨rfl, rfl⟩
  go_wp2_with fail
  refine (rd_4 _ b off cap ?_ ?_ _ 1 4 4 (by decide) ?_ (x / 16777216) (x / 65536 % 256) (x / 256 % 256) (x % 256) (by omega) (by omega) (by omega) (by omega) ?_ ?_ ?_ ?_).mono ?_
  · go_side
  · go_side
  · go_side
  · first | go_side | (simp; omega)
  · first | go_side | (simp; omega)
  · first | go_side | (simp; omega)
  · first | go_side | (simp; omega)
  rintro e w' ⟨g, cp, rfl, hg0, hlo, hlt, hB⟩
  rw [show x / 16777216 * 16777216 + (x / 65536 % 256 * 65536 + (x / 256 % 256 * 256 + x % 256)) = x by omega] at hg0
  have hold := old hB
  go_wp2_with fail
  refine wp_loop_rounds 2 ?_
  rw [rounds_succ]
  go_wp2_with fail
  go_quiet (fail)
  go_wp2_with fail
  rw [rounds_succ]
  go_wp2_with fail
  go_ret
  refine ⟨rfl, below_drewN ?_ _⟩
  refine Below.trans ?_ (hB.mono ?_)
  · go_grown
  · simp; omega

set_option maxHeartbeats 1600000 in
theorem rt_11_full (i : Nat) (hi : i < 42) (w : World) (h0 : 0 < w.heap.size) (b off cap : Nat) (hr : w.cell? ⟨0, i, none⟩ = some (.slice (some ⟨b, off, none⟩) 2 cap)) (hc0 : w.cell? ⟨b, off, none⟩ = some (.int .i64 1)) (hc1 : w.cell? ⟨b, off + 1, none⟩ = some (.int .i64 1)) (hb : b < w.heap.size) (x y : Int) (hx0 : 0 ≤ x ∧ x < 256) (hx1 : 0 ≤ y ∧ y < 256) :
    Calls Eeug.prog 4 #[.int .u8 i, .int .i64 x, .int .i64 y] w fun e w' => e = .returned (.bool true) ∧ Below w.heap.size w w' := by
  have hmk : ∀ w : World, (Instr.makeSlice 22 (.int .i64 0) (.int .i64 2)).run Eeug.prog w = .ok (.slice (some ⟨w.heap.size, 0, none⟩) 0 2) (w.alloc (.cells #[.int .i64 0, .int .i64 0] 3)) := fun _ => by kernel_rfl
  have hu0 := u64_in x (by omega) (by omega)
  have hl0 : ¬ x < 0 := by omega
  have hk0 : x < 256 := by omega
  have hu1 := u64_in y (by omega) (by omega)
  have hl1 : ¬ y < 0 := by omega
  have hk1 : y < 256 := by omega
  have hb1 : b < w.heap.size + 1 := by omega
  have hb2 : b < w.heap.size + 1 + 1 := by omega
  have hb3 : b < w.heap.size + 1 + 1 + 1 := by omega
  go_enter Eeug.func4, Eeug.ntmps4
  go_wp2_with fail
  refine wp_loop_rounds 3 ?_
  rw [rounds_succ]
  go_wp2_with (go_at_call 5; refine (width1 _).mono ?_; rintro e w' ⟨rfl, rfl⟩)
  rw [rounds_succ]
  go_wp2_with (go_at_call 5; refine (width1 _).mono ?_; rintro e w' ⟨rfl, rfl⟩)
  rw [rounds_succ]
  go_wp2_with (first | (go_at_call_of 7 (Value.int IntKind.i64 1); refine (mods1 _).mono ?_; rintro e w' ⟨rfl, rfl⟩))
  refine (mk_11_2 i hi _ b off cap ?_ ?_ ?_ ?_ _ 0 2 x ?_ y ?_ ?_).mono ?_
  · go_side
  · go_side
  · go_side
  · go_side
  · go_side
  · go_side
  · go_side
  rintro e w' ⟨rfl, rfl⟩
  go_wp2_with fail
  refine (rd_11 _ b off cap ?_ ?_ ?_ _ 1 2 2 (by decide) ?_ x y (by omega) (by omega) ?_ ?_).mono ?_
  · go_side
  · go_side
  · go_side
  · go_side
  · first | go_side | (simp; omega)
  · first | go_side | (simp; omega)
  rintro e w' ⟨g, cp, rfl, hg0, hg1, hlo, hlt, hB⟩
  have hold := old hB
  go_wp2_with fail
  refine wp_loop_rounds 3 ?_
  rw [rounds_succ]
  go_wp2_with fail
  go_quiet (fail)
  go_wp2_with fail
  rw [rounds_succ]
  go_wp2_with fail
  go_quiet (fail)
  go_wp2_with fail
  rw [rounds_succ]
  go_wp2_with fail
  go_ret
  refine ⟨rfl, below_drewN ?_ _⟩
  refine Below.trans ?_ (hB.mono ?_)
  · go_grown
  · simp; omega

set_option maxHeartbeats 1600000 in
theorem rt_21_full (i : Nat) (hi : i < 42) (w : World) (h0 : 0 < w.heap.size) (b off cap : Nat) (hr : w.cell? ⟨0, i, none⟩ = some (.slice (some ⟨b, off, none⟩) 2 cap)) (hc0 : w.cell? ⟨b, off, none⟩ = some (.int .i64 2)) (hc1 : w.cell? ⟨b, off + 1, none⟩ = some (.int .i64 1)) (hb : b < w.heap.size) (x y : Int) (hx0 : 0 ≤ x ∧ x < 65536) (hx1 : 0 ≤ y ∧ y < 256) :
    Calls Eeug.prog 4 #[.int .u8 i, .int .i64 x, .int .i64 y] w fun e w' => e = .returned (.bool true) ∧ Below w.heap.size w w' := by
  have hmk : ∀ w : World, (Instr.makeSlice 22 (.int .i64 0) (.int .i64 2)).run Eeug.prog w = .ok (.slice (some ⟨w.heap.size, 0, none⟩) 0 2) (w.alloc (.cells #[.int .i64 0, .int .i64 0] 3)) := fun _ => by kernel_rfl
  have hu0 := u64_in x (by omega) (by omega)
  have hl0 : ¬ x < 0 := by omega
  have hk0 : x < 65536 := by omega
  have hu1 := u64_in y (by omega) (by omega)
  have hl1 : ¬ y < 0 := by omega
  have hk1 : y < 256 := by omega
  have hb1 : b < w.heap.size + 1 := by omega
  have hb2 : b < w.heap.size + 1 + 1 := by omega
  have hb3 : b < w.heap.size + 1 + 1 + 1 := by omega
  go_enter Eeug.func4, Eeug.ntmps4
  go_wp2_with fail
  refine wp_loop_rounds 3 ?_
  rw [rounds_succ]
  go_wp2_with (go_at_call 5; refine (width2 _).mono ?_; rintro e w' ⟨rfl, rfl⟩)
  rw [rounds_succ]
  go_wp2_with (go_at_call 5; refine (width1 _).mono ?_; rintro e w' ⟨rfl, rfl⟩)
  rw [rounds_succ]
  go_wp2_with (first | (go_at_call_of 7 (Value.int IntKind.i64 1); refine (mods1 _).mono ?_; rintro e w' ⟨rfl, rfl⟩) | (go_at_call_of 7 (Value.int IntKind.i64 2); refine (mods2 _).mono ?_; rintro e w' ⟨rfl, rfl⟩))
  refine (mk_21_2 i hi _ b off cap ?_ ?_ ?_ ?_ _ 0 2 x ?_ y ?_ ?_).mono ?_
  · go_side
  · go_side
  · go_side
  · go_side
  · go_side
  · go_side
  · go_side
  rintro e w' ⟨rfl, rfl⟩
  go_wp2_with fail
  refine (rd_21 _ b off cap ?_ ?_ ?_ _ 1 3 3 (by decide) ?_ (x / 256) (x % 256) y (by omega) (by omega) (by omega) ?_ ?_ ?_).mono ?_
  · go_side
  · go_side
  · go_side
  · go_side
  · first | go_side | (simp; omega)
  · first | go_side | (simp; omega)
  · first | go_side | (simp; omega)
  rintro e w' ⟨g, cp, rfl, hg0, hg1, hlo, hlt, hB⟩
  rw [show x / 256 * 256 + x % 256 = x by omega] at hg0
  have hold := old hB
  go_wp2_with fail
  refine wp_loop_rounds 3 ?_
  rw [rounds_succ]
  go_wp2_with fail
  go_quiet (fail)
  go_wp2_with fail
  rw [rounds_succ]
  go_wp2_with fail
  go_quiet (fail)
  go_wp2_with fail
  rw [rounds_succ]
  go_wp2_with fail
  go_ret
  refine ⟨rfl, below_drewN ?_ _⟩
  refine Below.trans ?_ (hB.mono ?_)
  · go_grown
  · simp; omega

end Go.Proofs.YoeeuwDoor

/-
  OUR OWN. The walks of FnMakeInstructionReadOperandsRoundTrip: one a shape of the opcode's row; the early returns apart. By program (wip/gen/gen_rt.py).
-/
import Derived.Test.YoeeuwDoorRd
import Derived.Deep.QuietTactic
import Derived.BigQuiet
namespace Go.Proofs.YoeeuwDoor
open Go.RowKit

theorem mods1 (w : World) : Calls Eeug.prog 7 #[.int .i64 1] w fun e w' => e = .returned (.int .u64 256) ∧ w = w' := (mod1 w).mono fun _ _ h => ⟨h.1, h.2.symm⟩
theorem mods2 (w : World) : Calls Eeug.prog 7 #[.int .i64 2] w fun e w' => e = .returned (.int .u64 65536) ∧ w = w' := (mod2 w).mono fun _ _ h => ⟨h.1, h.2.symm⟩
theorem mods4 (w : World) : Calls Eeug.prog 7 #[.int .i64 4] w fun e w' => e = .returned (.int .u64 4294967296) ∧ w = w' := (mod4 w).mono fun _ _ h => ⟨h.1, h.2.symm⟩
theorem u64_in (x : Int) (h : 0 ≤ x) (h' : x ≤ 9223372036854775807) : IntKind.u64.wrap x = x := by rw [IntKind.wrap_u64]; omega
set_option maxHeartbeats 400000 in
theorem rt_past (i : Int) (hi : 42 ≤ i) (hj : i ≤ 255) (w : World) (x y : Int) :
    Calls Eeug.prog 4 #[.int .u8 i, .int .i64 x, .int .i64 y] w fun e w' => e = .returned (.bool true) ∧ Below w.heap.size w w' := by
  go_enter Eeug.func4, Eeug.ntmps4
  go_wp2
  go_ret
  exact ⟨rfl, Below.refl _ _⟩

set_option maxHeartbeats 1600000 in
theorem rt_1_early0lo (i : Nat) (hi : i < 42) (w : World) (b off cap : Nat) (hr : w.cell? ⟨0, i, none⟩ = some (.slice (some ⟨b, off, none⟩) 1 cap)) (hc0 : w.cell? ⟨b, off, none⟩ = some (.int .i64 1)) (_hb : b < w.heap.size) (x y : Int) (hv : x < 0) :
    Calls Eeug.prog 4 #[.int .u8 i, .int .i64 x, .int .i64 y] w fun e w' => e = .returned (.bool true) ∧ Below w.heap.size w w' := by
  go_enter Eeug.func4, Eeug.ntmps4
  go_wp2_with fail
  refine wp_loop_rounds 2 ?_
  rw [rounds_succ]
  go_wp2_with (go_at_call 5; refine (width1 _).mono ?_; rintro e w' ⟨rfl, rfl⟩)
  rw [rounds_succ]
  go_wp2_with (first | (go_at_call_of 7 (Value.int IntKind.i64 1); refine (mods1 _).mono ?_; rintro e w' ⟨rfl, rfl⟩))
  go_ret
  exact ⟨rfl, Below.refl _ _⟩

set_option maxHeartbeats 1600000 in
theorem rt_1_early0hi (i : Nat) (hi : i < 42) (w : World) (b off cap : Nat) (hr : w.cell? ⟨0, i, none⟩ = some (.slice (some ⟨b, off, none⟩) 1 cap)) (hc0 : w.cell? ⟨b, off, none⟩ = some (.int .i64 1)) (_hb : b < w.heap.size) (x y : Int) (hv : 256 ≤ x) (hm : x ≤ 9223372036854775807) :
    Calls Eeug.prog 4 #[.int .u8 i, .int .i64 x, .int .i64 y] w fun e w' => e = .returned (.bool true) ∧ Below w.heap.size w w' := by
  have hu := u64_in x (by omega) (by omega)
  have hl : ¬ x < 0 := by omega
  go_enter Eeug.func4, Eeug.ntmps4
  go_wp2_with fail
  refine wp_loop_rounds 2 ?_
  rw [rounds_succ]
  go_wp2_with (go_at_call 5; refine (width1 _).mono ?_; rintro e w' ⟨rfl, rfl⟩)
  rw [rounds_succ]
  go_wp2_with (first | (go_at_call_of 7 (Value.int IntKind.i64 1); refine (mods1 _).mono ?_; rintro e w' ⟨rfl, rfl⟩))
  go_ret
  exact ⟨rfl, Below.refl _ _⟩

set_option maxHeartbeats 1600000 in
theorem rt_2_early0lo (i : Nat) (hi : i < 42) (w : World) (b off cap : Nat) (hr : w.cell? ⟨0, i, none⟩ = some (.slice (some ⟨b, off, none⟩) 1 cap)) (hc0 : w.cell? ⟨b, off, none⟩ = some (.int .i64 2)) (_hb : b < w.heap.size) (x y : Int) (hv : x < 0) :
    Calls Eeug.prog 4 #[.int .u8 i, .int .i64 x, .int .i64 y] w fun e w' => e = .returned (.bool true) ∧ Below w.heap.size w w' := by
  go_enter Eeug.func4, Eeug.ntmps4
  go_wp2_with fail
  refine wp_loop_rounds 2 ?_
  rw [rounds_succ]
  go_wp2_with (go_at_call 5; refine (width2 _).mono ?_; rintro e w' ⟨rfl, rfl⟩)
  rw [rounds_succ]
  go_wp2_with (first | (go_at_call_of 7 (Value.int IntKind.i64 2); refine (mods2 _).mono ?_; rintro e w' ⟨rfl, rfl⟩))
  go_ret
  exact ⟨rfl, Below.refl _ _⟩

set_option maxHeartbeats 1600000 in
theorem rt_2_early0hi (i : Nat) (hi : i < 42) (w : World) (b off cap : Nat) (hr : w.cell? ⟨0, i, none⟩ = some (.slice (some ⟨b, off, none⟩) 1 cap)) (hc0 : w.cell? ⟨b, off, none⟩ = some (.int .i64 2)) (_hb : b < w.heap.size) (x y : Int) (hv : 65536 ≤ x) (hm : x ≤ 9223372036854775807) :
    Calls Eeug.prog 4 #[.int .u8 i, .int .i64 x, .int .i64 y] w fun e w' => e = .returned (.bool true) ∧ Below w.heap.size w w' := by
  have hu := u64_in x (by omega) (by omega)
  have hl : ¬ x < 0 := by omega
  go_enter Eeug.func4, Eeug.ntmps4
  go_wp2_with fail
  refine wp_loop_rounds 2 ?_
  rw [rounds_succ]
  go_wp2_with (go_at_call 5; refine (width2 _).mono ?_; rintro e w' ⟨rfl, rfl⟩)
  rw [rounds_succ]
  go_wp2_with (first | (go_at_call_of 7 (Value.int IntKind.i64 2); refine (mods2 _).mono ?_; rintro e w' ⟨rfl, rfl⟩))
  go_ret
  exact ⟨rfl, Below.refl _ _⟩

set_option maxHeartbeats 1600000 in
theorem rt_4_early0lo (i : Nat) (hi : i < 42) (w : World) (b off cap : Nat) (hr : w.cell? ⟨0, i, none⟩ = some (.slice (some ⟨b, off, none⟩) 1 cap)) (hc0 : w.cell? ⟨b, off, none⟩ = some (.int .i64 4)) (_hb : b < w.heap.size) (x y : Int) (hv : x < 0) :
    Calls Eeug.prog 4 #[.int .u8 i, .int .i64 x, .int .i64 y] w fun e w' => e = .returned (.bool true) ∧ Below w.heap.size w w' := by
  go_enter Eeug.func4, Eeug.ntmps4
  go_wp2_with fail
  refine wp_loop_rounds 2 ?_
  rw [rounds_succ]
  go_wp2_with (go_at_call 5; refine (width4 _).mono ?_; rintro e w' ⟨rfl, rfl⟩)
  rw [rounds_succ]
  go_wp2_with (first | (go_at_call_of 7 (Value.int IntKind.i64 4); refine (mods4 _).mono ?_; rintro e w' ⟨rfl, rfl⟩))
  go_ret
  exact ⟨rfl, Below.refl _ _⟩

set_option maxHeartbeats 1600000 in
theorem rt_4_early0hi (i : Nat) (hi : i < 42) (w : World) (b off cap : Nat) (hr : w.cell? ⟨0, i, none⟩ = some (.slice (some ⟨b, off, none⟩) 1 cap)) (hc0 : w.cell? ⟨b, off, none⟩ = some (.int .i64 4)) (_hb : b < w.heap.size) (x y : Int) (hv : 4294967296 ≤ x) (hm : x ≤ 9223372036854775807) :
    Calls Eeug.prog 4 #[.int .u8 i, .int .i64 x, .int .i64 y] w fun e w' => e = .returned (.bool true) ∧ Below w.heap.size w w' := by
  have hu := u64_in x (by omega) (by omega)
  have hl : ¬ x < 0 := by omega
  go_enter Eeug.func4, Eeug.ntmps4
  go_wp2_with fail
  refine wp_loop_rounds 2 ?_
  rw [rounds_succ]
  go_wp2_with (go_at_call 5; refine (width4 _).mono ?_; rintro e w' ⟨rfl, rfl⟩)
  rw [rounds_succ]
  go_wp2_with (first | (go_at_call_of 7 (Value.int IntKind.i64 4); refine (mods4 _).mono ?_; rintro e w' ⟨rfl, rfl⟩))
  go_ret
  exact ⟨rfl, Below.refl _ _⟩

set_option maxHeartbeats 1600000 in
theorem rt_11_early0lo (i : Nat) (hi : i < 42) (w : World) (b off cap : Nat) (hr : w.cell? ⟨0, i, none⟩ = some (.slice (some ⟨b, off, none⟩) 2 cap)) (hc0 : w.cell? ⟨b, off, none⟩ = some (.int .i64 1)) (hc1 : w.cell? ⟨b, off + 1, none⟩ = some (.int .i64 1)) (_hb : b < w.heap.size) (x y : Int) (hv : x < 0) :
    Calls Eeug.prog 4 #[.int .u8 i, .int .i64 x, .int .i64 y] w fun e w' => e = .returned (.bool true) ∧ Below w.heap.size w w' := by
  go_enter Eeug.func4, Eeug.ntmps4
  go_wp2_with fail
  refine wp_loop_rounds 3 ?_
  rw [rounds_succ]
  go_wp2_with (go_at_call 5; refine (width1 _).mono ?_; rintro e w' ⟨rfl, rfl⟩)
  rw [rounds_succ]
  go_wp2_with (go_at_call 5; refine (width1 _).mono ?_; rintro e w' ⟨rfl, rfl⟩)
  rw [rounds_succ]
  go_wp2_with (first | (go_at_call_of 7 (Value.int IntKind.i64 1); refine (mods1 _).mono ?_; rintro e w' ⟨rfl, rfl⟩))
  go_ret
  exact ⟨rfl, Below.refl _ _⟩

set_option maxHeartbeats 1600000 in
theorem rt_11_early0hi (i : Nat) (hi : i < 42) (w : World) (b off cap : Nat) (hr : w.cell? ⟨0, i, none⟩ = some (.slice (some ⟨b, off, none⟩) 2 cap)) (hc0 : w.cell? ⟨b, off, none⟩ = some (.int .i64 1)) (hc1 : w.cell? ⟨b, off + 1, none⟩ = some (.int .i64 1)) (_hb : b < w.heap.size) (x y : Int) (hv : 256 ≤ x) (hm : x ≤ 9223372036854775807) :
    Calls Eeug.prog 4 #[.int .u8 i, .int .i64 x, .int .i64 y] w fun e w' => e = .returned (.bool true) ∧ Below w.heap.size w w' := by
  have hu := u64_in x (by omega) (by omega)
  have hl : ¬ x < 0 := by omega
  go_enter Eeug.func4, Eeug.ntmps4
  go_wp2_with fail
  refine wp_loop_rounds 3 ?_
  rw [rounds_succ]
  go_wp2_with (go_at_call 5; refine (width1 _).mono ?_; rintro e w' ⟨rfl, rfl⟩)
  rw [rounds_succ]
  go_wp2_with (go_at_call 5; refine (width1 _).mono ?_; rintro e w' ⟨rfl, rfl⟩)
  rw [rounds_succ]
  go_wp2_with (first | (go_at_call_of 7 (Value.int IntKind.i64 1); refine (mods1 _).mono ?_; rintro e w' ⟨rfl, rfl⟩))
  go_ret
  exact ⟨rfl, Below.refl _ _⟩

set_option maxHeartbeats 1600000 in
theorem rt_11_early1lo (i : Nat) (hi : i < 42) (w : World) (b off cap : Nat) (hr : w.cell? ⟨0, i, none⟩ = some (.slice (some ⟨b, off, none⟩) 2 cap)) (hc0 : w.cell? ⟨b, off, none⟩ = some (.int .i64 1)) (hc1 : w.cell? ⟨b, off + 1, none⟩ = some (.int .i64 1)) (_hb : b < w.heap.size) (x y : Int) (hx0 : 0 ≤ x ∧ x < 256) (hv : y < 0) :
    Calls Eeug.prog 4 #[.int .u8 i, .int .i64 x, .int .i64 y] w fun e w' => e = .returned (.bool true) ∧ Below w.heap.size w w' := by
  have hu0 := u64_in x (by omega) (by omega)
  have hl0 : ¬ x < 0 := by omega
  have hk0 : x < 256 := by omega
  go_enter Eeug.func4, Eeug.ntmps4
  go_wp2_with fail
  refine wp_loop_rounds 3 ?_
  rw [rounds_succ]
  go_wp2_with (go_at_call 5; refine (width1 _).mono ?_; rintro e w' ⟨rfl, rfl⟩)
  rw [rounds_succ]
  go_wp2_with (go_at_call 5; refine (width1 _).mono ?_; rintro e w' ⟨rfl, rfl⟩)
  rw [rounds_succ]
  go_wp2_with (first | (go_at_call_of 7 (Value.int IntKind.i64 1); refine (mods1 _).mono ?_; rintro e w' ⟨rfl, rfl⟩))
  go_ret
  exact ⟨rfl, Below.refl _ _⟩

set_option maxHeartbeats 1600000 in
theorem rt_11_early1hi (i : Nat) (hi : i < 42) (w : World) (b off cap : Nat) (hr : w.cell? ⟨0, i, none⟩ = some (.slice (some ⟨b, off, none⟩) 2 cap)) (hc0 : w.cell? ⟨b, off, none⟩ = some (.int .i64 1)) (hc1 : w.cell? ⟨b, off + 1, none⟩ = some (.int .i64 1)) (_hb : b < w.heap.size) (x y : Int) (hx0 : 0 ≤ x ∧ x < 256) (hv : 256 ≤ y) (hm : y ≤ 9223372036854775807) :
    Calls Eeug.prog 4 #[.int .u8 i, .int .i64 x, .int .i64 y] w fun e w' => e = .returned (.bool true) ∧ Below w.heap.size w w' := by
  have hu0 := u64_in x (by omega) (by omega)
  have hl0 : ¬ x < 0 := by omega
  have hk0 : x < 256 := by omega
  have hu := u64_in y (by omega) (by omega)
  have hl : ¬ y < 0 := by omega
  go_enter Eeug.func4, Eeug.ntmps4
  go_wp2_with fail
  refine wp_loop_rounds 3 ?_
  rw [rounds_succ]
  go_wp2_with (go_at_call 5; refine (width1 _).mono ?_; rintro e w' ⟨rfl, rfl⟩)
  rw [rounds_succ]
  go_wp2_with (go_at_call 5; refine (width1 _).mono ?_; rintro e w' ⟨rfl, rfl⟩)
  rw [rounds_succ]
  go_wp2_with (first | (go_at_call_of 7 (Value.int IntKind.i64 1); refine (mods1 _).mono ?_; rintro e w' ⟨rfl, rfl⟩))
  go_ret
  exact ⟨rfl, Below.refl _ _⟩

set_option maxHeartbeats 1600000 in
theorem rt_21_early0lo (i : Nat) (hi : i < 42) (w : World) (b off cap : Nat) (hr : w.cell? ⟨0, i, none⟩ = some (.slice (some ⟨b, off, none⟩) 2 cap)) (hc0 : w.cell? ⟨b, off, none⟩ = some (.int .i64 2)) (hc1 : w.cell? ⟨b, off + 1, none⟩ = some (.int .i64 1)) (_hb : b < w.heap.size) (x y : Int) (hv : x < 0) :
    Calls Eeug.prog 4 #[.int .u8 i, .int .i64 x, .int .i64 y] w fun e w' => e = .returned (.bool true) ∧ Below w.heap.size w w' := by
  go_enter Eeug.func4, Eeug.ntmps4
  go_wp2_with fail
  refine wp_loop_rounds 3 ?_
  rw [rounds_succ]
  go_wp2_with (go_at_call 5; refine (width2 _).mono ?_; rintro e w' ⟨rfl, rfl⟩)
  rw [rounds_succ]
  go_wp2_with (go_at_call 5; refine (width1 _).mono ?_; rintro e w' ⟨rfl, rfl⟩)
  rw [rounds_succ]
  go_wp2_with (first | (go_at_call_of 7 (Value.int IntKind.i64 1); refine (mods1 _).mono ?_; rintro e w' ⟨rfl, rfl⟩) | (go_at_call_of 7 (Value.int IntKind.i64 2); refine (mods2 _).mono ?_; rintro e w' ⟨rfl, rfl⟩))
  go_ret
  exact ⟨rfl, Below.refl _ _⟩

set_option maxHeartbeats 1600000 in
theorem rt_21_early0hi (i : Nat) (hi : i < 42) (w : World) (b off cap : Nat) (hr : w.cell? ⟨0, i, none⟩ = some (.slice (some ⟨b, off, none⟩) 2 cap)) (hc0 : w.cell? ⟨b, off, none⟩ = some (.int .i64 2)) (hc1 : w.cell? ⟨b, off + 1, none⟩ = some (.int .i64 1)) (_hb : b < w.heap.size) (x y : Int) (hv : 65536 ≤ x) (hm : x ≤ 9223372036854775807) :
    Calls Eeug.prog 4 #[.int .u8 i, .int .i64 x, .int .i64 y] w fun e w' => e = .returned (.bool true) ∧ Below w.heap.size w w' := by
  have hu := u64_in x (by omega) (by omega)
  have hl : ¬ x < 0 := by omega
  go_enter Eeug.func4, Eeug.ntmps4
  go_wp2_with fail
  refine wp_loop_rounds 3 ?_
  rw [rounds_succ]
  go_wp2_with (go_at_call 5; refine (width2 _).mono ?_; rintro e w' ⟨rfl, rfl⟩)
  rw [rounds_succ]
  go_wp2_with (go_at_call 5; refine (width1 _).mono ?_; rintro e w' ⟨rfl, rfl⟩)
  rw [rounds_succ]
  go_wp2_with (first | (go_at_call_of 7 (Value.int IntKind.i64 1); refine (mods1 _).mono ?_; rintro e w' ⟨rfl, rfl⟩) | (go_at_call_of 7 (Value.int IntKind.i64 2); refine (mods2 _).mono ?_; rintro e w' ⟨rfl, rfl⟩))
  go_ret
  exact ⟨rfl, Below.refl _ _⟩

set_option maxHeartbeats 1600000 in
theorem rt_21_early1lo (i : Nat) (hi : i < 42) (w : World) (b off cap : Nat) (hr : w.cell? ⟨0, i, none⟩ = some (.slice (some ⟨b, off, none⟩) 2 cap)) (hc0 : w.cell? ⟨b, off, none⟩ = some (.int .i64 2)) (hc1 : w.cell? ⟨b, off + 1, none⟩ = some (.int .i64 1)) (_hb : b < w.heap.size) (x y : Int) (hx0 : 0 ≤ x ∧ x < 65536) (hv : y < 0) :
    Calls Eeug.prog 4 #[.int .u8 i, .int .i64 x, .int .i64 y] w fun e w' => e = .returned (.bool true) ∧ Below w.heap.size w w' := by
  have hu0 := u64_in x (by omega) (by omega)
  have hl0 : ¬ x < 0 := by omega
  have hk0 : x < 65536 := by omega
  go_enter Eeug.func4, Eeug.ntmps4
  go_wp2_with fail
  refine wp_loop_rounds 3 ?_
  rw [rounds_succ]
  go_wp2_with (go_at_call 5; refine (width2 _).mono ?_; rintro e w' ⟨rfl, rfl⟩)
  rw [rounds_succ]
  go_wp2_with (go_at_call 5; refine (width1 _).mono ?_; rintro e w' ⟨rfl, rfl⟩)
  rw [rounds_succ]
  go_wp2_with (first | (go_at_call_of 7 (Value.int IntKind.i64 1); refine (mods1 _).mono ?_; rintro e w' ⟨rfl, rfl⟩) | (go_at_call_of 7 (Value.int IntKind.i64 2); refine (mods2 _).mono ?_; rintro e w' ⟨rfl, rfl⟩))
  go_ret
  exact ⟨rfl, Below.refl _ _⟩

set_option maxHeartbeats 1600000 in
theorem rt_21_early1hi (i : Nat) (hi : i < 42) (w : World) (b off cap : Nat) (hr : w.cell? ⟨0, i, none⟩ = some (.slice (some ⟨b, off, none⟩) 2 cap)) (hc0 : w.cell? ⟨b, off, none⟩ = some (.int .i64 2)) (hc1 : w.cell? ⟨b, off + 1, none⟩ = some (.int .i64 1)) (_hb : b < w.heap.size) (x y : Int) (hx0 : 0 ≤ x ∧ x < 65536) (hv : 256 ≤ y) (hm : y ≤ 9223372036854775807) :
    Calls Eeug.prog 4 #[.int .u8 i, .int .i64 x, .int .i64 y] w fun e w' => e = .returned (.bool true) ∧ Below w.heap.size w w' := by
  have hu0 := u64_in x (by omega) (by omega)
  have hl0 : ¬ x < 0 := by omega
  have hk0 : x < 65536 := by omega
  have hu := u64_in y (by omega) (by omega)
  have hl : ¬ y < 0 := by omega
  go_enter Eeug.func4, Eeug.ntmps4
  go_wp2_with fail
  refine wp_loop_rounds 3 ?_
  rw [rounds_succ]
  go_wp2_with (go_at_call 5; refine (width2 _).mono ?_; rintro e w' ⟨rfl, rfl⟩)
  rw [rounds_succ]
  go_wp2_with (go_at_call 5; refine (width1 _).mono ?_; rintro e w' ⟨rfl, rfl⟩)
  rw [rounds_succ]
  go_wp2_with (first | (go_at_call_of 7 (Value.int IntKind.i64 1); refine (mods1 _).mono ?_; rintro e w' ⟨rfl, rfl⟩) | (go_at_call_of 7 (Value.int IntKind.i64 2); refine (mods2 _).mono ?_; rintro e w' ⟨rfl, rfl⟩))
  go_ret
  exact ⟨rfl, Below.refl _ _⟩

end Go.Proofs.YoeeuwDoor

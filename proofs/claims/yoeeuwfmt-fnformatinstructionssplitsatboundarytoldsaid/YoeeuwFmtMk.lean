/-
  OUR OWN. The contracts of zzWidthOK and MakeInstruction: one walk a shape of the opcode's row of widths and a count of operands. By program (wip/gen/gen_mk.py).
-/
import Derived.Test.YoeeuwFmtRows
import Derived.WalkKit
import Derived.WalkSpells
import Derived.WalkLawsBesides
import Derived.Handy
namespace Go.Proofs.YoeeuwFmt
open Go.RowKit

set_option maxHeartbeats 400000 in
theorem width1 (w : World) : Calls Eeug.prog 12 #[.int .i64 1] w fun e w' => e = .returned (.bool true) ∧ w = w' := by
  go_enter Eeug.func12, Eeug.ntmps12
  go_wp2
  go_ret
  exact ⟨rfl, rfl⟩

set_option maxHeartbeats 400000 in
theorem width2 (w : World) : Calls Eeug.prog 12 #[.int .i64 2] w fun e w' => e = .returned (.bool true) ∧ w = w' := by
  go_enter Eeug.func12, Eeug.ntmps12
  go_wp2
  go_ret
  exact ⟨rfl, rfl⟩

set_option maxHeartbeats 400000 in
theorem width4 (w : World) : Calls Eeug.prog 12 #[.int .i64 4] w fun e w' => e = .returned (.bool true) ∧ w = w' := by
  go_enter Eeug.func12, Eeug.ntmps12
  go_wp2
  go_ret
  exact ⟨rfl, rfl⟩

set_option maxHeartbeats 800000 in
theorem mk_e_0 (i : Nat) (hi : i < 42) (w : World) (ao : Option Addr) (cap : Nat) (hr : w.cell? ⟨0, i, none⟩ = some (.slice ao 0 cap))
    (xao : Option Addr) (xcap : Nat) :
    Calls Eeug.prog 13 #[.int .u8 i, .slice xao 0 xcap] w fun e w' => e = .returned (.slice (some ⟨w.heap.size, 0, none⟩) 1 1) ∧ w.alloc (.cells #[.int .u8 i] 5) = w' := by
  have hmk : ∀ w : World, (Instr.makeSlice 22 (.int .i64 1) (.int .i64 1)).run Eeug.prog w = .ok (.slice (some ⟨w.heap.size, 0, none⟩) 1 1) (w.alloc (.cells #[.int .u8 0] 5)) := fun _ => by kernel_rfl
  go_enter Eeug.func13, Eeug.ntmps13
  go_wp2
  go_rounds 1
  go_rounds 1
  go_ret
  exact ⟨rfl, rfl⟩

set_option maxHeartbeats 800000 in
theorem mk_1_1 (i : Nat) (hi : i < 42) (w : World) (b off cap : Nat) (hr : w.cell? ⟨0, i, none⟩ = some (.slice (some ⟨b, off, none⟩) 1 cap)) (hc0 : w.cell? ⟨b, off, none⟩ = some (.int .i64 1)) (hb : b < w.heap.size)
    (xb xo xcap : Nat) (x : Int) (hx0 : w.cell? ⟨xb, xo, none⟩ = some (.int .i64 x)) (hxb : xb < w.heap.size) :
    Calls Eeug.prog 13 #[.int .u8 i, .slice (some ⟨xb, xo, none⟩) 1 xcap] w fun e w' => e = .returned (.slice (some ⟨w.heap.size, 0, none⟩) 2 2) ∧ w.alloc (.cells #[.int .u8 i, .int .u8 (IntKind.u8.wrap x)] 5) = w' := by
  have hmk : ∀ w : World, (Instr.makeSlice 22 (.int .i64 2) (.int .i64 2)).run Eeug.prog w = .ok (.slice (some ⟨w.heap.size, 0, none⟩) 2 2) (w.alloc (.cells #[.int .u8 0, .int .u8 0] 5)) := fun _ => by kernel_rfl
  go_enter Eeug.func13, Eeug.ntmps13
  go_wp2
  go_rounds 2
  go_rounds 2
  go_ret
  exact ⟨rfl, rfl⟩

set_option maxHeartbeats 800000 in
theorem mk_2_1 (i : Nat) (hi : i < 42) (w : World) (b off cap : Nat) (hr : w.cell? ⟨0, i, none⟩ = some (.slice (some ⟨b, off, none⟩) 1 cap)) (hc0 : w.cell? ⟨b, off, none⟩ = some (.int .i64 2)) (hb : b < w.heap.size)
    (xb xo xcap : Nat) (x : Int) (hx0 : w.cell? ⟨xb, xo, none⟩ = some (.int .i64 x)) (hxb : xb < w.heap.size) :
    Calls Eeug.prog 13 #[.int .u8 i, .slice (some ⟨xb, xo, none⟩) 1 xcap] w fun e w' => e = .returned (.slice (some ⟨w.heap.size, 0, none⟩) 3 3) ∧ w.alloc (.cells #[.int .u8 i, .int .u8 (IntKind.u16.wrap x / 256 % 256), .int .u8 (IntKind.u16.wrap x % 256)] 5) = w' := by
  have hmk : ∀ w : World, (Instr.makeSlice 22 (.int .i64 3) (.int .i64 3)).run Eeug.prog w = .ok (.slice (some ⟨w.heap.size, 0, none⟩) 3 3) (w.alloc (.cells #[.int .u8 0, .int .u8 0, .int .u8 0] 5)) := fun _ => by kernel_rfl
  go_enter Eeug.func13, Eeug.ntmps13
  go_wp2
  go_rounds 2
  go_rounds 2
  go_ret
  exact ⟨rfl, rfl⟩

set_option maxHeartbeats 800000 in
theorem mk_4_1 (i : Nat) (hi : i < 42) (w : World) (b off cap : Nat) (hr : w.cell? ⟨0, i, none⟩ = some (.slice (some ⟨b, off, none⟩) 1 cap)) (hc0 : w.cell? ⟨b, off, none⟩ = some (.int .i64 4)) (hb : b < w.heap.size)
    (xb xo xcap : Nat) (x : Int) (hx0 : w.cell? ⟨xb, xo, none⟩ = some (.int .i64 x)) (hxb : xb < w.heap.size) :
    Calls Eeug.prog 13 #[.int .u8 i, .slice (some ⟨xb, xo, none⟩) 1 xcap] w fun e w' => e = .returned (.slice (some ⟨w.heap.size, 0, none⟩) 5 5) ∧ w.alloc (.cells #[.int .u8 i, .int .u8 (x % 4294967296 / 16777216), .int .u8 (x % 4294967296 / 65536 % 256), .int .u8 (x % 4294967296 / 256 % 256), .int .u8 (x % 256)] 5) = w' := by
  have hmk : ∀ w : World, (Instr.makeSlice 22 (.int .i64 5) (.int .i64 5)).run Eeug.prog w = .ok (.slice (some ⟨w.heap.size, 0, none⟩) 5 5) (w.alloc (.cells #[.int .u8 0, .int .u8 0, .int .u8 0, .int .u8 0, .int .u8 0] 5)) := fun _ => by kernel_rfl
  go_enter Eeug.func13, Eeug.ntmps13
  go_wp2
  go_rounds 2
  go_rounds 2
  go_ret
  exact ⟨rfl, rfl⟩

set_option maxHeartbeats 800000 in
theorem mk_11_2 (i : Nat) (hi : i < 42) (w : World) (b off cap : Nat) (hr : w.cell? ⟨0, i, none⟩ = some (.slice (some ⟨b, off, none⟩) 2 cap)) (hc0 : w.cell? ⟨b, off, none⟩ = some (.int .i64 1)) (hc1 : w.cell? ⟨b, off + 1, none⟩ = some (.int .i64 1)) (hb : b < w.heap.size)
    (xb xo xcap : Nat) (x : Int) (hx0 : w.cell? ⟨xb, xo, none⟩ = some (.int .i64 x)) (y : Int) (hx1 : w.cell? ⟨xb, xo + 1, none⟩ = some (.int .i64 y)) (hxb : xb < w.heap.size) :
    Calls Eeug.prog 13 #[.int .u8 i, .slice (some ⟨xb, xo, none⟩) 2 xcap] w fun e w' => e = .returned (.slice (some ⟨w.heap.size, 0, none⟩) 3 3) ∧ w.alloc (.cells #[.int .u8 i, .int .u8 (IntKind.u8.wrap x), .int .u8 (IntKind.u8.wrap y)] 5) = w' := by
  have hmk : ∀ w : World, (Instr.makeSlice 22 (.int .i64 3) (.int .i64 3)).run Eeug.prog w = .ok (.slice (some ⟨w.heap.size, 0, none⟩) 3 3) (w.alloc (.cells #[.int .u8 0, .int .u8 0, .int .u8 0] 5)) := fun _ => by kernel_rfl
  go_enter Eeug.func13, Eeug.ntmps13
  go_wp2
  go_rounds 3
  go_rounds 3
  go_ret
  exact ⟨rfl, rfl⟩

set_option maxHeartbeats 800000 in
theorem mk_21_2 (i : Nat) (hi : i < 42) (w : World) (b off cap : Nat) (hr : w.cell? ⟨0, i, none⟩ = some (.slice (some ⟨b, off, none⟩) 2 cap)) (hc0 : w.cell? ⟨b, off, none⟩ = some (.int .i64 2)) (hc1 : w.cell? ⟨b, off + 1, none⟩ = some (.int .i64 1)) (hb : b < w.heap.size)
    (xb xo xcap : Nat) (x : Int) (hx0 : w.cell? ⟨xb, xo, none⟩ = some (.int .i64 x)) (y : Int) (hx1 : w.cell? ⟨xb, xo + 1, none⟩ = some (.int .i64 y)) (hxb : xb < w.heap.size) :
    Calls Eeug.prog 13 #[.int .u8 i, .slice (some ⟨xb, xo, none⟩) 2 xcap] w fun e w' => e = .returned (.slice (some ⟨w.heap.size, 0, none⟩) 4 4) ∧ w.alloc (.cells #[.int .u8 i, .int .u8 (IntKind.u16.wrap x / 256 % 256), .int .u8 (IntKind.u16.wrap x % 256), .int .u8 (IntKind.u8.wrap y)] 5) = w' := by
  have hmk : ∀ w : World, (Instr.makeSlice 22 (.int .i64 4) (.int .i64 4)).run Eeug.prog w = .ok (.slice (some ⟨w.heap.size, 0, none⟩) 4 4) (w.alloc (.cells #[.int .u8 0, .int .u8 0, .int .u8 0, .int .u8 0] 5)) := fun _ => by kernel_rfl
  go_enter Eeug.func13, Eeug.ntmps13
  go_wp2
  go_rounds 3
  go_rounds 3
  go_ret
  exact ⟨rfl, rfl⟩

end Go.Proofs.YoeeuwFmt

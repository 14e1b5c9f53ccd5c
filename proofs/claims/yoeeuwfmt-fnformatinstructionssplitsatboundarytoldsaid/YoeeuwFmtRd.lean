/-
  OUR OWN. The contracts of ReadOperands: one walk a shape of the opcode's row. By program (wip/gen/gen_rd.py).
-/
import Derived.Test.YoeeuwFmtMk
import Derived.Test.YoeeuwFmtNum
import Derived.Deep.RegionHeld3
import Derived.Deep.AppendLies
import Derived.Deep.DeepMust
namespace Go.Proofs.YoeeuwFmt
open Go.RowKit
theorem info3 : (Eeug.prog.info? 3).map (fun i => (i.zero, i.size, i.bytes)) = some (some (.int .i64 0), 1, 8) := by kernel_rfl
theorem old {W w1 : World} (hb : Below W.heap.size W w1) : (∀ b o, b < W.heap.size → w1.cell? ⟨b, o, none⟩ = W.cell? ⟨b, o, none⟩) :=
  fun b o h => hb.cell (p := ⟨b, o, none⟩) h
theorem own_lo {w : World} {base g n cap size : Nat} {e : TypeId} {xs : List Value} (h : w.ownsRow base e size (.slice (some ⟨g, 0, none⟩) n cap) n xs) (hn : 0 < n) : base ≤ g := by
  obtain ⟨g', cap', hv, hb, _⟩ := h.form hn
  cases hv
  exact hb

set_option maxHeartbeats 400000 in
theorem rd_e (w : World) (ao : Option Addr) (cap : Nat) (v : Value) :
    Calls Eeug.prog 14 #[.slice ao 0 cap, v] w fun e w' => e = .returned (.tuple #[.slice none 0 0, .int .i64 0]) ∧ w = w' := by
  go_enter Eeug.func14, Eeug.ntmps14
  go_wp2_with fail
  refine wp_loop_rounds 1 ?_
  rw [rounds_succ]
  go_wp2_with fail
  go_ret2
  exact ⟨rfl, rfl⟩

set_option maxHeartbeats 1600000 in
theorem rd_1 (w : World) (b off cap : Nat) (_hb : b < w.heap.size) (hc0 : w.cell? ⟨b, off, none⟩ = some (.int .i64 1))
    (B o m c : Nat) (hm : 1 ≤ m) (_hB : B < w.heap.size) (b0 : Int) (h0 : 0 ≤ b0 ∧ b0 ≤ 255)
    (hd0 : w.cell? ⟨B, o, none⟩ = some (.int .u8 b0)) :
    Calls Eeug.prog 14 #[.slice (some ⟨b, off, none⟩) 1 cap, .slice (some ⟨B, o, none⟩) m c] w fun e w' => ∃ g cp, e = .returned (.tuple #[.slice (some ⟨g, 0, none⟩) 1 cp, .int .i64 1]) ∧ w'.cell? ⟨g, 0, none⟩ = some (.int .i64 (b0)) ∧ w.heap.size ≤ g ∧ g < w'.heap.size ∧ Below w.heap.size w w' := by
  obtain ⟨i0, hi, hz0, hz1, hz2⟩ := info_parts info3
  have hn0 : 0 < m := by omega
  have hm0 : (0 : Int) < (m : Int) := by omega
  have hwb0 := wrap_small b0 (by omega)
  have hw1 : IntKind.i64.wrap 1 = 1 := by decide
  go_enter Eeug.func14, Eeug.ntmps14
  go_wp2_with fail
  refine wp_loop_rounds 2 ?_
  rw [rounds_succ]
  go_wp2_with (at_builtin; go_must (refine wpList_append_lies _ rfl (.tmp 17) (.tmp 23) 23 rfl w.heap.size 3 i0 (.int .i64 0) 1 8 Eeug.underlying23 hi hz0 hz1 hz2 rfl (by decide) (.slice none 0 0) 0 [] rfl (World.ownsRow_nil _ _ _ _) ⟨w.heap.size, 0, none⟩ 1 1 [.int .i64 (b0)] rfl rfl (cell_one_new _ _ _) (by simp [Value.oneCell']) (by decide) (by decide) (by decide) (by simp) _ rfl ?_; intro g1 cp1 w1 hown1 hgrow1 hat1 hlt1; have hB1 : Below w.heap.size w w1 := ((Below.refl _ w).alloc (Nat.le_refl _) _).grown hgrow1 (by simp) (by intro k hk; cases hk); have hold1 := old hB1; have hsz1 := hB1.size; clear hat1 hgrow1; simp only [Nat.zero_add, List.nil_append] at hown1 ⊢))
  rw [rounds_succ]
  go_wp2_with fail
  go_ret2
  exact ⟨g1, cp1, rfl, hown1.cellAt 0 (by decide), own_lo hown1 (by decide), hlt1, hB1⟩

set_option maxHeartbeats 1600000 in
theorem rd_2 (w : World) (b off cap : Nat) (_hb : b < w.heap.size) (hc0 : w.cell? ⟨b, off, none⟩ = some (.int .i64 2))
    (B o m c : Nat) (hm : 2 ≤ m) (hB : B < w.heap.size) (b0 b1 : Int) (h0 : 0 ≤ b0 ∧ b0 ≤ 255) (h1 : 0 ≤ b1 ∧ b1 ≤ 255)
    (hd0 : w.cell? ⟨B, o, none⟩ = some (.int .u8 b0)) (hd1 : w.cell? ⟨B, o + 1, none⟩ = some (.int .u8 b1)) :
    Calls Eeug.prog 14 #[.slice (some ⟨b, off, none⟩) 1 cap, .slice (some ⟨B, o, none⟩) m c] w fun e w' => ∃ g cp, e = .returned (.tuple #[.slice (some ⟨g, 0, none⟩) 1 cp, .int .i64 2]) ∧ w'.cell? ⟨g, 0, none⟩ = some (.int .i64 (b0 * 256 + b1)) ∧ w.heap.size ≤ g ∧ g < w'.heap.size ∧ Below w.heap.size w w' := by
  obtain ⟨i0, hi, hz0, hz1, hz2⟩ := info_parts info3
  have hn0 : 0 < m := by omega
  have hm0 : (0 : Int) < (m : Int) := by omega
  have hwb0 := wrap_small b0 (by omega)
  have hm1 : (1 : Int) < (m : Int) := by omega
  have hwb1 := wrap_small b1 (by omega)
  have hw1 : IntKind.i64.wrap 1 = 1 := by decide
  have hw2 : IntKind.i64.wrap 2 = 2 := by decide
  have hws0 := wrap_small (b0 * 256) (by omega)
  have hor0 := or8 b1 b0 h1 h0
  go_enter Eeug.func14, Eeug.ntmps14
  go_wp2_with fail
  refine wp_loop_rounds 2 ?_
  rw [rounds_succ]
  go_wp2_with fail
  go_region_held3 (fun w' => w'.cell? ⟨B, o, none⟩ = some (.int .u8 b0) ∧ w'.cell? ⟨B, o + 1, none⟩ = some (.int .u8 b1)) (go_keep) ((refine step_append_lies _ rfl (.tmp 27) (.tmp 41) 23 rfl w.heap.size 3 i0 (.int .i64 0) 1 8 Eeug.underlying23 hi hz0 hz1 hz2 rfl (by decide) (.slice none 0 0) 0 [] rfl (World.ownsRow_nil _ _ _ _) ⟨w.heap.size, 0, none⟩ 1 1 [.int .i64 (b0 * 256 + b1)] rfl rfl (cell_one_new _ _ _) (by simp [Value.oneCell']) (by decide) (by decide) (by decide) (by simp) _ rfl ?_; intro g1 cp1 w1 hown1 hgrow1 hat1 hlt1; have hB1 : Below w.heap.size w w1 := ((Below.refl _ w).alloc (Nat.le_refl _) _).drew.grown hgrow1 (by simp) (by intro k hk; cases hk); have hold1 := old hB1; have hsz1 := hB1.size; clear hat1 hgrow1; simp only [Nat.zero_add, List.nil_append] at hown1 ⊢))
  go_wp2_with fail
  rw [rounds_succ]
  go_wp2_with fail
  go_ret2
  exact ⟨g1, cp1, rfl, hown1.cellAt 0 (by decide), own_lo hown1 (by decide), hlt1, hB1⟩

set_option maxHeartbeats 1600000 in
theorem rd_4 (w : World) (b off cap : Nat) (_hb : b < w.heap.size) (hc0 : w.cell? ⟨b, off, none⟩ = some (.int .i64 4))
    (B o m c : Nat) (hm : 4 ≤ m) (hB : B < w.heap.size) (b0 b1 b2 b3 : Int) (h0 : 0 ≤ b0 ∧ b0 ≤ 255) (h1 : 0 ≤ b1 ∧ b1 ≤ 255) (h2 : 0 ≤ b2 ∧ b2 ≤ 255) (h3 : 0 ≤ b3 ∧ b3 ≤ 255)
    (hd0 : w.cell? ⟨B, o, none⟩ = some (.int .u8 b0)) (hd1 : w.cell? ⟨B, o + 1, none⟩ = some (.int .u8 b1)) (hd2 : w.cell? ⟨B, o + 2, none⟩ = some (.int .u8 b2)) (hd3 : w.cell? ⟨B, o + 3, none⟩ = some (.int .u8 b3)) :
    Calls Eeug.prog 14 #[.slice (some ⟨b, off, none⟩) 1 cap, .slice (some ⟨B, o, none⟩) m c] w fun e w' => ∃ g cp, e = .returned (.tuple #[.slice (some ⟨g, 0, none⟩) 1 cp, .int .i64 4]) ∧ w'.cell? ⟨g, 0, none⟩ = some (.int .i64 (b0 * 16777216 + (b1 * 65536 + (b2 * 256 + b3)))) ∧ w.heap.size ≤ g ∧ g < w'.heap.size ∧ Below w.heap.size w w' := by
  obtain ⟨i0, hi, hz0, hz1, hz2⟩ := info_parts info3
  have hn0 : 0 < m := by omega
  have hm0 : (0 : Int) < (m : Int) := by omega
  have hwb0 := wrap_small b0 (by omega)
  have hm1 : (1 : Int) < (m : Int) := by omega
  have hwb1 := wrap_small b1 (by omega)
  have hm2 : (2 : Int) < (m : Int) := by omega
  have hwb2 := wrap_small b2 (by omega)
  have hm3 : (3 : Int) < (m : Int) := by omega
  have hwb3 := wrap_small b3 (by omega)
  have hw1 : IntKind.i64.wrap 1 = 1 := by decide
  have hw2 : IntKind.i64.wrap 2 = 2 := by decide
  have hw3 : IntKind.i64.wrap 3 = 3 := by decide
  have hw4 : IntKind.i64.wrap 4 = 4 := by decide
  have hwsa := wrap_small (b2 * 256) (by omega)
  have hwsb := wrap_small (b1 * 65536) (by omega)
  have hwsc := wrap_small (b0 * 16777216) (by omega)
  have hora := or8 b3 b2 h3 h2
  have horb := or16 (b2 * 256 + b3) b1 (by omega) h1
  have horc := or24 (b1 * 65536 + (b2 * 256 + b3)) b0 (by omega) h0
  go_enter Eeug.func14, Eeug.ntmps14
  go_wp2_with fail
  refine wp_loop_rounds 2 ?_
  rw [rounds_succ]
  go_wp2_with fail
  go_region_held3 (fun w' => w'.cell? ⟨B, o, none⟩ = some (.int .u8 b0) ∧ w'.cell? ⟨B, o + 1, none⟩ = some (.int .u8 b1) ∧ w'.cell? ⟨B, o + 2, none⟩ = some (.int .u8 b2) ∧ w'.cell? ⟨B, o + 3, none⟩ = some (.int .u8 b3)) (go_keep) ((refine step_append_lies _ rfl (.tmp 45) (.tmp 75) 23 rfl w.heap.size 3 i0 (.int .i64 0) 1 8 Eeug.underlying23 hi hz0 hz1 hz2 rfl (by decide) (.slice none 0 0) 0 [] rfl (World.ownsRow_nil _ _ _ _) ⟨w.heap.size, 0, none⟩ 1 1 [.int .i64 (b0 * 16777216 + (b1 * 65536 + (b2 * 256 + b3)))] rfl rfl (cell_one_new _ _ _) (by simp [Value.oneCell']) (by decide) (by decide) (by decide) (by simp) _ rfl ?_; intro g1 cp1 w1 hown1 hgrow1 hat1 hlt1; have hB1 : Below w.heap.size w w1 := ((Below.refl _ w).alloc (Nat.le_refl _) _).drew.grown hgrow1 (by simp) (by intro k hk; cases hk); have hold1 := old hB1; have hsz1 := hB1.size; clear hat1 hgrow1; simp only [Nat.zero_add, List.nil_append] at hown1 ⊢))
  go_wp2_with fail
  rw [rounds_succ]
  go_wp2_with fail
  go_ret2
  exact ⟨g1, cp1, rfl, hown1.cellAt 0 (by decide), own_lo hown1 (by decide), hlt1, hB1⟩

set_option maxHeartbeats 1600000 in
theorem rd_11 (w : World) (b off cap : Nat) (hb : b < w.heap.size) (hc0 : w.cell? ⟨b, off, none⟩ = some (.int .i64 1)) (hc1 : w.cell? ⟨b, off + 1, none⟩ = some (.int .i64 1))
    (B o m c : Nat) (hm : 2 ≤ m) (hB : B < w.heap.size) (b0 b1 : Int) (h0 : 0 ≤ b0 ∧ b0 ≤ 255) (h1 : 0 ≤ b1 ∧ b1 ≤ 255)
    (hd0 : w.cell? ⟨B, o, none⟩ = some (.int .u8 b0)) (hd1 : w.cell? ⟨B, o + 1, none⟩ = some (.int .u8 b1)) :
    Calls Eeug.prog 14 #[.slice (some ⟨b, off, none⟩) 2 cap, .slice (some ⟨B, o, none⟩) m c] w fun e w' => ∃ g cp, e = .returned (.tuple #[.slice (some ⟨g, 0, none⟩) 2 cp, .int .i64 2]) ∧ w'.cell? ⟨g, 0, none⟩ = some (.int .i64 (b0)) ∧ w'.cell? ⟨g, 1, none⟩ = some (.int .i64 (b1)) ∧ w.heap.size ≤ g ∧ g < w'.heap.size ∧ Below w.heap.size w w' := by
  obtain ⟨i0, hi, hz0, hz1, hz2⟩ := info_parts info3
  have hn0 : 0 < m := by omega
  have hm0 : (0 : Int) < (m : Int) := by omega
  have hwb0 := wrap_small b0 (by omega)
  have hm1 : (1 : Int) < (m : Int) := by omega
  have hwb1 := wrap_small b1 (by omega)
  have hw1 : IntKind.i64.wrap 1 = 1 := by decide
  have hw2 : IntKind.i64.wrap 2 = 2 := by decide
  go_enter Eeug.func14, Eeug.ntmps14
  go_wp2_with fail
  refine wp_loop_rounds 3 ?_
  rw [rounds_succ]
  go_wp2_with (at_builtin; go_must (refine wpList_append_lies _ rfl (.tmp 17) (.tmp 23) 23 rfl w.heap.size 3 i0 (.int .i64 0) 1 8 Eeug.underlying23 hi hz0 hz1 hz2 rfl (by decide) (.slice none 0 0) 0 [] rfl (World.ownsRow_nil _ _ _ _) ⟨w.heap.size, 0, none⟩ 1 1 [.int .i64 (b0)] rfl rfl (cell_one_new _ _ _) (by simp [Value.oneCell']) (by decide) (by decide) (by decide) (by simp) _ rfl ?_; intro g1 cp1 w1 hown1 hgrow1 hat1 hlt1; have hB1 : Below w.heap.size w w1 := ((Below.refl _ w).alloc (Nat.le_refl _) _).grown hgrow1 (by simp) (by intro k hk; cases hk); have hold1 := old hB1; have hsz1 := hB1.size; clear hat1 hgrow1; simp only [Nat.zero_add, List.nil_append] at hown1 ⊢))
  rw [rounds_succ]
  go_wp2_with (at_builtin; go_must (refine wpList_append_lies _ rfl (.tmp 17) (.tmp 23) 23 rfl w.heap.size 3 i0 (.int .i64 0) 1 8 Eeug.underlying23 hi hz0 hz1 hz2 rfl (by decide) (.slice (some ⟨g1, 0, none⟩) 1 cp1) 1 [.int .i64 (b0)] rfl (hown1.alloc _) ⟨w1.heap.size, 0, none⟩ 1 1 [.int .i64 (b1)] rfl rfl (cell_one_new _ _ _) (by simp [Value.oneCell']) (by decide) (by decide) (by decide) (by simp; omega) _ rfl ?_; intro g2 cp2 w2 hown2 hgrow2 hat2 hlt2; have hB2 : Below w.heap.size w w2 := (hB1.alloc (hB1.size) _).grown hgrow2 (by simp; omega) (by intro k hk; have hk := Option.some.inj hk; subst hk; exact own_lo hown1 (by decide)); have hold2 := old hB2; have hsz2 := hB2.size; clear hat2 hgrow2; simp only [Nat.reduceAdd, List.cons_append, List.nil_append] at hown2 ⊢))
  rw [rounds_succ]
  go_wp2_with fail
  go_ret2
  exact ⟨g2, cp2, rfl, hown2.cellAt 0 (by decide), hown2.cellAt 1 (by decide), own_lo hown2 (by decide), hlt2, hB2⟩

set_option maxHeartbeats 1600000 in
theorem rd_21 (w : World) (b off cap : Nat) (hb : b < w.heap.size) (hc0 : w.cell? ⟨b, off, none⟩ = some (.int .i64 2)) (hc1 : w.cell? ⟨b, off + 1, none⟩ = some (.int .i64 1))
    (B o m c : Nat) (hm : 3 ≤ m) (hB : B < w.heap.size) (b0 b1 b2 : Int) (h0 : 0 ≤ b0 ∧ b0 ≤ 255) (h1 : 0 ≤ b1 ∧ b1 ≤ 255) (h2 : 0 ≤ b2 ∧ b2 ≤ 255)
    (hd0 : w.cell? ⟨B, o, none⟩ = some (.int .u8 b0)) (hd1 : w.cell? ⟨B, o + 1, none⟩ = some (.int .u8 b1)) (hd2 : w.cell? ⟨B, o + 2, none⟩ = some (.int .u8 b2)) :
    Calls Eeug.prog 14 #[.slice (some ⟨b, off, none⟩) 2 cap, .slice (some ⟨B, o, none⟩) m c] w fun e w' => ∃ g cp, e = .returned (.tuple #[.slice (some ⟨g, 0, none⟩) 2 cp, .int .i64 3]) ∧ w'.cell? ⟨g, 0, none⟩ = some (.int .i64 (b0 * 256 + b1)) ∧ w'.cell? ⟨g, 1, none⟩ = some (.int .i64 (b2)) ∧ w.heap.size ≤ g ∧ g < w'.heap.size ∧ Below w.heap.size w w' := by
  obtain ⟨i0, hi, hz0, hz1, hz2⟩ := info_parts info3
  have hn0 : 0 < m := by omega
  have hm0 : (0 : Int) < (m : Int) := by omega
  have hwb0 := wrap_small b0 (by omega)
  have hm1 : (1 : Int) < (m : Int) := by omega
  have hwb1 := wrap_small b1 (by omega)
  have hm2 : (2 : Int) < (m : Int) := by omega
  have hwb2 := wrap_small b2 (by omega)
  have hw1 : IntKind.i64.wrap 1 = 1 := by decide
  have hw2 : IntKind.i64.wrap 2 = 2 := by decide
  have hw3 : IntKind.i64.wrap 3 = 3 := by decide
  have hws0 := wrap_small (b0 * 256) (by omega)
  have hor0 := or8 b1 b0 h1 h0
  go_enter Eeug.func14, Eeug.ntmps14
  go_wp2_with fail
  refine wp_loop_rounds 3 ?_
  rw [rounds_succ]
  go_wp2_with fail
  go_region_held3 (fun w' => w'.cell? ⟨B, o, none⟩ = some (.int .u8 b0) ∧ w'.cell? ⟨B, o + 1, none⟩ = some (.int .u8 b1)) (go_keep) ((refine step_append_lies _ rfl (.tmp 27) (.tmp 41) 23 rfl w.heap.size 3 i0 (.int .i64 0) 1 8 Eeug.underlying23 hi hz0 hz1 hz2 rfl (by decide) (.slice none 0 0) 0 [] rfl (World.ownsRow_nil _ _ _ _) ⟨w.heap.size, 0, none⟩ 1 1 [.int .i64 (b0 * 256 + b1)] rfl rfl (cell_one_new _ _ _) (by simp [Value.oneCell']) (by decide) (by decide) (by decide) (by simp) _ rfl ?_; intro g1 cp1 w1 hown1 hgrow1 hat1 hlt1; have hB1 : Below w.heap.size w w1 := ((Below.refl _ w).alloc (Nat.le_refl _) _).drew.grown hgrow1 (by simp) (by intro k hk; cases hk); have hold1 := old hB1; have hsz1 := hB1.size; clear hat1 hgrow1; simp only [Nat.zero_add, List.nil_append] at hown1 ⊢))
  go_wp2_with fail
  rw [rounds_succ]
  go_wp2_with (at_builtin; go_must (refine wpList_append_lies _ rfl (.tmp 17) (.tmp 23) 23 rfl w.heap.size 3 i0 (.int .i64 0) 1 8 Eeug.underlying23 hi hz0 hz1 hz2 rfl (by decide) (.slice (some ⟨g1, 0, none⟩) 1 cp1) 1 [.int .i64 (b0 * 256 + b1)] rfl (hown1.alloc _) ⟨w1.heap.size, 0, none⟩ 1 1 [.int .i64 (b2)] rfl rfl (cell_one_new _ _ _) (by simp [Value.oneCell']) (by decide) (by decide) (by decide) (by simp; omega) _ rfl ?_; intro g2 cp2 w2 hown2 hgrow2 hat2 hlt2; have hB2 : Below w.heap.size w w2 := (hB1.alloc (hB1.size) _).grown hgrow2 (by simp; omega) (by intro k hk; have hk := Option.some.inj hk; subst hk; exact own_lo hown1 (by decide)); have hold2 := old hB2; have hsz2 := hB2.size; clear hat2 hgrow2; simp only [Nat.reduceAdd, List.cons_append, List.nil_append] at hown2 ⊢))
  rw [rounds_succ]
  go_wp2_with fail
  go_ret2
  exact ⟨g2, cp2, rfl, hown2.cellAt 0 (by decide), hown2.cellAt 1 (by decide), own_lo hown2 (by decide), hlt2, hB2⟩

end Go.Proofs.YoeeuwFmt

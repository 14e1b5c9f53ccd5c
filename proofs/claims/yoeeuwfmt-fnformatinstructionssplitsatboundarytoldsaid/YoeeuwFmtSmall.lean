/-
  OUR OWN. The contracts of the two zzBytes bounds and of zzTableSane.
-/
import Derived.Test.YoeeuwFmtMk
import Derived.Test.YoeeuwFmtTab
namespace Go.Proofs.YoeeuwFmt
open Go.RowKit

set_option maxHeartbeats 400000 in
theorem bytes3_yes (w : World) (a b : Option Addr) (la ca lb cb : Nat) (p : Int) (h : la + lb ≤ 1048576) :
    Calls Eeug.prog 5 #[.slice a la ca, .slice b lb cb, .int .i64 p] w fun e w' => e = .returned (.bool true) ∧ w = w' := by
  have h1 : ¬ (1048576 : Int) < (la : Int) := by omega
  have h2 : ¬ (1048576 : Int) < (lb : Int) := by omega
  have h3 : ¬ (1048576 : Int) < (la : Int) + (lb : Int) := by omega
  go_enter Eeug.func5, Eeug.ntmps5
  go_wp2
  go_ret
  exact ⟨rfl, rfl⟩

set_option maxHeartbeats 400000 in
theorem bytes3_no (w : World) (a b : Option Addr) (la ca lb cb : Nat) (p : Int) (h : 1048576 < la + lb) (hla : la ≤ maxLen) (hlb : lb ≤ maxLen) :
    Calls Eeug.prog 5 #[.slice a la ca, .slice b lb cb, .int .i64 p] w fun e w' => e = .returned (.bool false) ∧ w = w' := by
  unfold maxLen at hla hlb
  by_cases h1 : (1048576 : Int) < (la : Int)
  · go_enter Eeug.func5, Eeug.ntmps5
    go_wp2
    go_ret
    exact ⟨rfl, rfl⟩
  by_cases h2 : (1048576 : Int) < (lb : Int)
  · go_enter Eeug.func5, Eeug.ntmps5
    go_wp2
    go_ret
    exact ⟨rfl, rfl⟩
  have h3 : (1048576 : Int) < (la : Int) + (lb : Int) := by omega
  go_enter Eeug.func5, Eeug.ntmps5
  go_wp2
  go_ret
  exact ⟨rfl, rfl⟩

theorem row_shapes : ∀ l ∈ opRows, l = [] ∨ l = [1] ∨ l = [2] ∨ l = [4] ∨ l = [1, 1] ∨ l = [2, 1] := by decide
theorem row_at (i : Nat) (hi : i < 42) : ∃ l, opRows[i]? = some l := ⟨_, List.getElem?_eq_getElem (by simpa [opRows] using hi)⟩

theorem tab_cases {w : World} (hT : Tab w) (i : Nat) (hi : i < 42) :
    (∃ ao cap, opRows[i]? = some [] ∧ w.cell? ⟨0, i, none⟩ = some (.slice ao 0 cap)) ∨
    (∃ b off cap, opRows[i]? = some [1] ∧ w.cell? ⟨0, i, none⟩ = some (.slice (some ⟨b, off, none⟩) 1 cap) ∧ b < w.heap.size ∧ w.cell? ⟨b, off, none⟩ = some (.int .i64 1)) ∨
    (∃ b off cap, opRows[i]? = some [2] ∧ w.cell? ⟨0, i, none⟩ = some (.slice (some ⟨b, off, none⟩) 1 cap) ∧ b < w.heap.size ∧ w.cell? ⟨b, off, none⟩ = some (.int .i64 2)) ∨
    (∃ b off cap, opRows[i]? = some [4] ∧ w.cell? ⟨0, i, none⟩ = some (.slice (some ⟨b, off, none⟩) 1 cap) ∧ b < w.heap.size ∧ w.cell? ⟨b, off, none⟩ = some (.int .i64 4)) ∨
    (∃ b off cap, opRows[i]? = some [1, 1] ∧ w.cell? ⟨0, i, none⟩ = some (.slice (some ⟨b, off, none⟩) 2 cap) ∧ b < w.heap.size ∧ w.cell? ⟨b, off, none⟩ = some (.int .i64 1) ∧ w.cell? ⟨b, off + 1, none⟩ = some (.int .i64 1)) ∨
    (∃ b off cap, opRows[i]? = some [2, 1] ∧ w.cell? ⟨0, i, none⟩ = some (.slice (some ⟨b, off, none⟩) 2 cap) ∧ b < w.heap.size ∧ w.cell? ⟨b, off, none⟩ = some (.int .i64 2) ∧ w.cell? ⟨b, off + 1, none⟩ = some (.int .i64 1)) := by
  obtain ⟨l, hl⟩ := row_at i hi
  obtain ⟨ao, cap, hr, hcs⟩ := hT.2 i l hl
  rcases row_shapes l (List.mem_of_getElem? hl) with rfl | rfl | rfl | rfl | rfl | rfl
  · exact .inl ⟨ao, cap, hl, hr⟩
  · obtain ⟨b, off, rfl, hb, hc⟩ := hcs (by simp)
    exact .inr (.inl ⟨b, off, cap, hl, hr, hb, hc 0 (by decide)⟩)
  · obtain ⟨b, off, rfl, hb, hc⟩ := hcs (by simp)
    exact .inr (.inr (.inl ⟨b, off, cap, hl, hr, hb, hc 0 (by decide)⟩))
  · obtain ⟨b, off, rfl, hb, hc⟩ := hcs (by simp)
    exact .inr (.inr (.inr (.inl ⟨b, off, cap, hl, hr, hb, hc 0 (by decide)⟩)))
  · obtain ⟨b, off, rfl, hb, hc⟩ := hcs (by simp)
    exact .inr (.inr (.inr (.inr (.inl ⟨b, off, cap, hl, hr, hb, hc 0 (by decide), hc 1 (by decide)⟩))))
  · obtain ⟨b, off, rfl, hb, hc⟩ := hcs (by simp)
    exact .inr (.inr (.inr (.inr (.inr ⟨b, off, cap, hl, hr, hb, hc 0 (by decide), hc 1 (by decide)⟩))))

set_option maxHeartbeats 1600000 in
theorem sane (w : World) (hT : Tab w) :
    Calls Eeug.prog 6 #[] w fun e w' => e = .returned (.bool true) ∧ w = w' := by
  go_enter Eeug.func6, Eeug.ntmps6
  go_wp2
  go_loop [2] (fun i => ∃ k : Nat, k ≤ 42 ∧ i = .int .i64 k) (fun i => 42 - (intOf i).toNat)
  case atStart => exact ⟨0, by omega, rfl⟩
  case round =>
    obtain ⟨k, hk, rfl⟩ := hrel
    by_cases hlt : k < 42
    · have hcase := tab_cases hT k hlt
      clear hT
      rcases hcase with ⟨ao, cap, _, hr⟩ | ⟨b, off, cap, _, hr, hb, hc0⟩ | ⟨b, off, cap, _, hr, hb, hc0⟩ | ⟨b, off, cap, _, hr, hb, hc0⟩ | ⟨b, off, cap, _, hr, hb, hc0, hc1⟩ | ⟨b, off, cap, _, hr, hb, hc0, hc1⟩
      · go_wp2
        refine wp_loop_rounds 1 ?_
        rw [rounds_succ]
        go_wp2_with fail
        go_round
        case rel => exact ⟨k + 1, by omega, by go_num⟩
        case measure => simp [intOf]; omega
      · go_wp2
        refine wp_loop_rounds 2 ?_
        rw [rounds_succ]
        go_wp2_with (go_at_call 12; refine (width1 _).mono ?_; rintro e w' ⟨rfl, rfl⟩)
        rw [rounds_succ]
        go_wp2_with fail
        go_round
        case rel => exact ⟨k + 1, by omega, by go_num⟩
        case measure => simp [intOf]; omega
      · go_wp2
        refine wp_loop_rounds 2 ?_
        rw [rounds_succ]
        go_wp2_with (go_at_call 12; refine (width2 _).mono ?_; rintro e w' ⟨rfl, rfl⟩)
        rw [rounds_succ]
        go_wp2_with fail
        go_round
        case rel => exact ⟨k + 1, by omega, by go_num⟩
        case measure => simp [intOf]; omega
      · go_wp2
        refine wp_loop_rounds 2 ?_
        rw [rounds_succ]
        go_wp2_with (go_at_call 12; refine (width4 _).mono ?_; rintro e w' ⟨rfl, rfl⟩)
        rw [rounds_succ]
        go_wp2_with fail
        go_round
        case rel => exact ⟨k + 1, by omega, by go_num⟩
        case measure => simp [intOf]; omega
      · go_wp2
        refine wp_loop_rounds 3 ?_
        rw [rounds_succ]
        go_wp2_with (go_at_call 12; refine (width1 _).mono ?_; rintro e w' ⟨rfl, rfl⟩)
        rw [rounds_succ]
        go_wp2_with (go_at_call 12; refine (width1 _).mono ?_; rintro e w' ⟨rfl, rfl⟩)
        rw [rounds_succ]
        go_wp2_with fail
        go_round
        case rel => exact ⟨k + 1, by omega, by go_num⟩
        case measure => simp [intOf]; omega
      · go_wp2
        refine wp_loop_rounds 3 ?_
        rw [rounds_succ]
        go_wp2_with (go_at_call 12; refine (width2 _).mono ?_; rintro e w' ⟨rfl, rfl⟩)
        rw [rounds_succ]
        go_wp2_with (go_at_call 12; refine (width1 _).mono ?_; rintro e w' ⟨rfl, rfl⟩)
        rw [rounds_succ]
        go_wp2_with fail
        go_round
        case rel => exact ⟨k + 1, by omega, by go_num⟩
        case measure => simp [intOf]; omega
    · go_wp2
      go_ret
      exact ⟨rfl, rfl⟩
end Go.Proofs.YoeeuwFmt

/-
  OUR OWN. The contracts of zzCloneU8 and zzCloneInt: a fresh copy, nothing old written. By program (wip/gen/gen_clone.py).
-/
import Derived.Test.YoeeuwFmtSmall
import Derived.WalkSpells
namespace Go.Proofs.YoeeuwFmt
open Go.RowKit
theorem hide {p : Prop} (h : p) : Hid p := h
theorem unhide {p : Prop} (h : Hid p) : p := h

theorem info5c : (Eeug.prog.info? 5).map (fun i => (i.zero, i.size, i.bytes)) = some (some (.int .u8 0), 1, 1) := by kernel_rfl

set_option maxHeartbeats 400000 in
theorem clone7_nil (w : World) : Calls Eeug.prog 7 #[.slice none 0 0] w fun e w' => e = .returned (.slice none 0 0) ∧ w = w' := by
  have heq := fun (w : World) (a : Option Addr) (n c : Nat) => Lib.run_eql_slice_nil (P := Eeug.prog) w 22 5 a n c 0 0 Eeug.underlying22
  go_enter Eeug.func7, Eeug.ntmps7
  go_wp2
  go_ret
  exact ⟨rfl, rfl⟩

set_option maxHeartbeats 1600000 in
theorem clone7 (w : World) (a : Addr) (n cap : Nat) (zs : List Int) (hz : zs.length = n) (hn : n ≤ 65536)
    (hc : n ≠ 0 → ∃ B o, a = ⟨B, o, none⟩ ∧ B < w.heap.size ∧ ∀ j, j < n → w.cell? ⟨B, o + j, none⟩ = some (.int .u8 (zs.getD j 0))) :
    Calls Eeug.prog 7 #[.slice (some a) n cap] w fun e w' => e = .returned (.slice (some ⟨w.heap.size, 0, none⟩) n n) ∧
      w'.ownsRow w.heap.size 5 1 (.slice (some ⟨w.heap.size, 0, none⟩) n n) n (zs.map (Value.int .u8)) ∧ Below w.heap.size w w' := by
  have heq := fun (w : World) (a : Option Addr) (n c : Nat) => Lib.run_eql_slice_nil (P := Eeug.prog) w 22 5 a n c 0 0 Eeug.underlying22
  obtain ⟨i0, hi, hz0, hz1, hz2⟩ := info_parts info5c
  go_enter Eeug.func7, Eeug.ntmps7
  go_wp2_with (at_make; refine wpList_make_full _ rfl _ _ 22 rfl w.heap.size 5 i0 (.int .u8 0) 1 Eeug.underlying22 hi hz0 hz1 _ _ _ _ n rfl rfl rfl rfl (by rw [hz2]; omega) (by unfold maxLen; omega) (Nat.le_refl _) ?_; intro w1 hown1 hgrow1; have hB1 : Below w.heap.size w w1 := (Below.refl _ w).grown hgrow1 (Nat.le_refl _) (by intro k hk; cases hk); clear hgrow1)
  go_loopw [4] (fun i wr => ∃ (k : Nat) (xs : List Int), k ≤ n ∧ i = .int .i64 k ∧ xs.length = n ∧ Hid (∀ j, j < k → xs[j]? = zs[j]?) ∧ wr.ownsRow w.heap.size 5 1 (.slice (some ⟨w.heap.size, 0, none⟩) n n) n (xs.map (Value.int .u8)) ∧ Below w.heap.size w wr)
    (fun i _ => n - (intOf i).toNat)
  case atStart =>
    refine ⟨0, List.replicate n 0, Nat.zero_le _, rfl, by simp, fun j hj => by omega, ?_, hB1⟩
    have e : (madeCells (Value.int .u8 0).cells (n * 1)).toList = (List.replicate n 0).map (Value.int .u8) := by
      rw [Nat.mul_one]
      show (madeCells #[Value.int .u8 0] n).toList = _
      rw [toList_madeCells_one, List.map_replicate]
    rw [← e]; exact hown1
  case round =>
    obtain ⟨k, xs, hk, rfl, hxl, HX, hown, hB⟩ := hrel
    clear hown1 hB1
    by_cases hlt : k < n
    · obtain ⟨B, o, rfl, hBl, hcell⟩ := hc (by omega)
      have hck : wr.cell? ⟨B, o + k, none⟩ = some (.int .u8 (zs.getD k 0)) := (hB.cell (p := ⟨B, o + k, none⟩) hBl).trans (hcell k hlt)
      obtain ⟨z, hzz⟩ : ∃ z, z = zs.getD k 0 := ⟨_, rfl⟩
      rw [← hzz] at hck
      have HZ : Hid (z = zs.getD k 0) := hzz
      have hat : wr.cell? ⟨w.heap.size, k, none⟩ = some (.int .u8 (xs.getD k 0)) := by
        rw [hown.cellAt k (by omega), List.getElem?_map, List.getD_eq_getElem?_getD, List.getElem?_eq_getElem (by omega)]; rfl
      have hfr : wr.frozen? ⟨w.heap.size, k, none⟩ = false := hown.frozenAt k
      obtain ⟨y, hy⟩ : ∃ y, wr.cell? ⟨w.heap.size, k, none⟩ = some y := ⟨_, hat⟩
      have HO := hide hown
      clear hat hown hc hcell hzz
      go_wp2
      go_roundw
      case rel =>
        have hst := (unhide HO).stored k (.int .u8 z)
        refine ⟨k + 1, xs.set k z, by omega, by go_num, by simpa using hxl, ?_, ?_, ?_⟩
        · intro j hj
          by_cases hjk : j = k
          · subst hjk
            rw [List.getElem?_set_self (by omega), HZ.out, List.getD_eq_getElem?_getD, List.getElem?_eq_getElem (by omega)]; rfl
          · rw [List.getElem?_set_ne (by omega)]
            exact HX.out j (by omega)
        · rw [List.map_set]; exact hst.1
        · exact hB.grown hst.2 hB.size (by intro q hq; have hq := Option.some.inj hq; omega)
      case measure => simp [intOf]; omega
    · obtain rfl : k = n := by omega
      have hxz : xs = zs := List.ext_getElem? fun j => by
        by_cases hj : j < k
        · exact HX.out j hj
        · rw [List.getElem?_eq_none (by omega), List.getElem?_eq_none (by omega)]
      have HO := hide hown
      have HE := hide hxz
      clear hown hc hxz
      go_wp2
      go_ret
      refine ⟨rfl, ?_, hB⟩
      rw [← unhide HE]; exact unhide HO

theorem info3c : (Eeug.prog.info? 3).map (fun i => (i.zero, i.size, i.bytes)) = some (some (.int .i64 0), 1, 8) := by kernel_rfl

set_option maxHeartbeats 400000 in
theorem clone8_nil (w : World) : Calls Eeug.prog 8 #[.slice none 0 0] w fun e w' => e = .returned (.slice none 0 0) ∧ w = w' := by
  have heq := fun (w : World) (a : Option Addr) (n c : Nat) => Lib.run_eql_slice_nil (P := Eeug.prog) w 23 3 a n c 0 0 Eeug.underlying23
  go_enter Eeug.func8, Eeug.ntmps8
  go_wp2
  go_ret
  exact ⟨rfl, rfl⟩

set_option maxHeartbeats 1600000 in
theorem clone8 (w : World) (a : Addr) (n cap : Nat) (zs : List Int) (hz : zs.length = n) (hn : n ≤ 65536)
    (hc : n ≠ 0 → ∃ B o, a = ⟨B, o, none⟩ ∧ B < w.heap.size ∧ ∀ j, j < n → w.cell? ⟨B, o + j, none⟩ = some (.int .i64 (zs.getD j 0))) :
    Calls Eeug.prog 8 #[.slice (some a) n cap] w fun e w' => e = .returned (.slice (some ⟨w.heap.size, 0, none⟩) n n) ∧
      w'.ownsRow w.heap.size 3 1 (.slice (some ⟨w.heap.size, 0, none⟩) n n) n (zs.map (Value.int .i64)) ∧ Below w.heap.size w w' := by
  have heq := fun (w : World) (a : Option Addr) (n c : Nat) => Lib.run_eql_slice_nil (P := Eeug.prog) w 23 3 a n c 0 0 Eeug.underlying23
  obtain ⟨i0, hi, hz0, hz1, hz2⟩ := info_parts info3c
  go_enter Eeug.func8, Eeug.ntmps8
  go_wp2_with (at_make; refine wpList_make_full _ rfl _ _ 23 rfl w.heap.size 3 i0 (.int .i64 0) 1 Eeug.underlying23 hi hz0 hz1 _ _ _ _ n rfl rfl rfl rfl (by rw [hz2]; omega) (by unfold maxLen; omega) (Nat.le_refl _) ?_; intro w1 hown1 hgrow1; have hB1 : Below w.heap.size w w1 := (Below.refl _ w).grown hgrow1 (Nat.le_refl _) (by intro k hk; cases hk); clear hgrow1)
  go_loopw [4] (fun i wr => ∃ (k : Nat) (xs : List Int), k ≤ n ∧ i = .int .i64 k ∧ xs.length = n ∧ Hid (∀ j, j < k → xs[j]? = zs[j]?) ∧ wr.ownsRow w.heap.size 3 1 (.slice (some ⟨w.heap.size, 0, none⟩) n n) n (xs.map (Value.int .i64)) ∧ Below w.heap.size w wr)
    (fun i _ => n - (intOf i).toNat)
  case atStart =>
    refine ⟨0, List.replicate n 0, Nat.zero_le _, rfl, by simp, fun j hj => by omega, ?_, hB1⟩
    have e : (madeCells (Value.int .i64 0).cells (n * 1)).toList = (List.replicate n 0).map (Value.int .i64) := by
      rw [Nat.mul_one]
      show (madeCells #[Value.int .i64 0] n).toList = _
      rw [toList_madeCells_one, List.map_replicate]
    rw [← e]; exact hown1
  case round =>
    obtain ⟨k, xs, hk, rfl, hxl, HX, hown, hB⟩ := hrel
    clear hown1 hB1
    by_cases hlt : k < n
    · obtain ⟨B, o, rfl, hBl, hcell⟩ := hc (by omega)
      have hck : wr.cell? ⟨B, o + k, none⟩ = some (.int .i64 (zs.getD k 0)) := (hB.cell (p := ⟨B, o + k, none⟩) hBl).trans (hcell k hlt)
      obtain ⟨z, hzz⟩ : ∃ z, z = zs.getD k 0 := ⟨_, rfl⟩
      rw [← hzz] at hck
      have HZ : Hid (z = zs.getD k 0) := hzz
      have hat : wr.cell? ⟨w.heap.size, k, none⟩ = some (.int .i64 (xs.getD k 0)) := by
        rw [hown.cellAt k (by omega), List.getElem?_map, List.getD_eq_getElem?_getD, List.getElem?_eq_getElem (by omega)]; rfl
      have hfr : wr.frozen? ⟨w.heap.size, k, none⟩ = false := hown.frozenAt k
      obtain ⟨y, hy⟩ : ∃ y, wr.cell? ⟨w.heap.size, k, none⟩ = some y := ⟨_, hat⟩
      have HO := hide hown
      clear hat hown hc hcell hzz
      go_wp2
      go_roundw
      case rel =>
        have hst := (unhide HO).stored k (.int .i64 z)
        refine ⟨k + 1, xs.set k z, by omega, by go_num, by simpa using hxl, ?_, ?_, ?_⟩
        · intro j hj
          by_cases hjk : j = k
          · subst hjk
            rw [List.getElem?_set_self (by omega), HZ.out, List.getD_eq_getElem?_getD, List.getElem?_eq_getElem (by omega)]; rfl
          · rw [List.getElem?_set_ne (by omega)]
            exact HX.out j (by omega)
        · rw [List.map_set]; exact hst.1
        · exact hB.grown hst.2 hB.size (by intro q hq; have hq := Option.some.inj hq; omega)
      case measure => simp [intOf]; omega
    · obtain rfl : k = n := by omega
      have hxz : xs = zs := List.ext_getElem? fun j => by
        by_cases hj : j < k
        · exact HX.out j hj
        · rw [List.getElem?_eq_none (by omega), List.getElem?_eq_none (by omega)]
      have HO := hide hown
      have HE := hide hxz
      clear hown hc hxz
      go_wp2
      go_ret
      refine ⟨rfl, ?_, hB⟩
      rw [← unhide HE]; exact unhide HO

end Go.Proofs.YoeeuwFmt

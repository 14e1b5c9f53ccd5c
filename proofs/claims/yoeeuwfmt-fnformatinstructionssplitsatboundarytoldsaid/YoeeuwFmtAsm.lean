/-
  OUR OWN. The contract of zzAssemble: the code is a list of whole instructions, one an entry of ops. By program (wip/gen/gen_asm.py).
-/
import Derived.Test.YoeeuwFmtClone
import Derived.Test.YoeeuwFmtPlain
import Derived.Deep.AppendLies
import Derived.Deep.DeepMust
namespace Go.Proofs.YoeeuwFmt
open Go.RowKit

theorem asm_step {w : World} {base : Nat} {v : Value} {cd l : List Int} {m : Nat}
    (h : w.ownsRow base 5 1 v (cd.length + m) (cd.map (Value.int .u8) ++ l.map (Value.int .u8))) : w.ownsRow base 5 1 v (cd ++ l).length ((cd ++ l).map (Value.int .u8)) := by
  have hm : m = l.length := by have := h.1; simp at this; omega
  subst hm
  simpa using h
theorem flat_snoc {I : List (List Int)} {cd l : List Int} (h : cd = I.flatten) : Hid (cd ++ l = (I ++ [l]).flatten) := by
  subst h
  simp [Hid]
theorem u8b (x : Int) : 0 ≤ IntKind.u8.wrap x ∧ IntKind.u8.wrap x ≤ 255 := by rw [IntKind.wrap_u8]; omega
theorem all_nil : ∀ b ∈ ([] : List Int), 0 ≤ b ∧ b ≤ 255 := fun _ h => by cases h
theorem all_cons {a : Int} {l : List Int} (h : 0 ≤ a ∧ a ≤ 255) (hl : ∀ b ∈ l, 0 ≤ b ∧ b ≤ 255) : ∀ b ∈ a :: l, 0 ≤ b ∧ b ≤ 255 := List.forall_mem_cons.2 ⟨h, hl⟩
theorem ins_snoc {I : List (List Int)} {l : List Int} (h : ∀ l ∈ I, Ins l) (hl : Ins l) : ∀ x ∈ I ++ [l], Ins x := by
  intro x hx
  rcases List.mem_append.1 hx with h1 | h1
  · exact h x h1
  · obtain rfl : x = l := by simpa using h1
    exact hl
/-- The cells of a block that was made second. -/
theorem news2 (w : World) (A : Obj) (cs : Array Value) (t : TypeId) : ∀ j u, cs.toList[j]? = some u → ((w.alloc A).alloc (.cells cs t)).cell? ((⟨w.heap.size + 1, 0, none⟩ : Addr).add j) = some u := by
  have h := World.news_of_block (w := (w.alloc A).alloc (.cells cs t)) (B := (w.alloc A).heap.size) (heap_alloc_new _ _)
  rw [World.size_alloc] at h
  exact h

set_option maxHeartbeats 4000000 in
theorem asm (w : World) (hT : Tab w) (OB oo no ocap AB ao la acap nx0 : Nat) (os az : List Int) (hno : no ≤ 65536) (hla : la ≤ 65536) (hnx0 : nx0 ≤ 1000000) (hla0 : 0 < la)
    (hOB : OB < w.heap.size) (hAB : AB < w.heap.size)
    (hos : ∀ j, j < no → w.cell? ⟨OB, oo + j, none⟩ = some (.int .u8 (os.getD j 0))) (hob : ∀ j, j < no → 0 ≤ os.getD j 0 ∧ os.getD j 0 ≤ 255)
    (has : ∀ j, j < la → w.cell? ⟨AB, ao + j, none⟩ = some (.int .i64 (az.getD j 0))) :
    Calls Eeug.prog 9 #[.slice (some ⟨OB, oo, none⟩) no ocap, .slice (some ⟨AB, ao, none⟩) la acap, .int .i64 nx0] w fun e w' => ∃ (I : List (List Int)) (nx : Nat) (v : Value), e = .returned (.tuple #[v, .int .i64 nx]) ∧
      I.length = no ∧ (∀ l ∈ I, Ins l) ∧ nx ≤ nx0 + 2 * no ∧ w'.ownsRow w.heap.size 5 1 v I.flatten.length (I.flatten.map (Value.int .u8)) ∧ Below w.heap.size w w' := by
  obtain ⟨i0, hi, hz0, hz1, hz2⟩ := info_parts info5c
  have hmk0 : ∀ w : World, (Instr.makeSlice 23 (.int .i64 0) (.int .i64 0)).run Eeug.prog w = .ok (.slice (some ⟨w.heap.size, 0, none⟩) 0 0) (w.alloc (.cells #[] 3)) := fun _ => by kernel_rfl
  have hmk1 : ∀ w : World, (Instr.makeSlice 23 (.int .i64 1) (.int .i64 1)).run Eeug.prog w = .ok (.slice (some ⟨w.heap.size, 0, none⟩) 1 1) (w.alloc (.cells #[.int .i64 0] 3)) := fun _ => by kernel_rfl
  have hmk2 : ∀ w : World, (Instr.makeSlice 23 (.int .i64 2) (.int .i64 2)).run Eeug.prog w = .ok (.slice (some ⟨w.heap.size, 0, none⟩) 2 2) (w.alloc (.cells #[.int .i64 0, .int .i64 0] 3)) := fun _ => by kernel_rfl
  go_enter Eeug.func9, Eeug.ntmps9
  go_wp2
  go_loopw [2, 8, 10] (fun nx v i wr => ∃ (k n : Nat) (I : List (List Int)) (cd : List Int), k ≤ no ∧ i = .int .i64 k ∧ nx = .int .i64 n ∧ n ≤ nx0 + 2 * k ∧ Hid (I.length = k) ∧ Hid (∀ l ∈ I, Ins l) ∧ Hid (cd = I.flatten) ∧ wr.ownsRow w.heap.size 5 1 v cd.length (cd.map (Value.int .u8)) ∧ Below w.heap.size w wr)
    (fun _ _ i _ => no - (intOf i).toNat)
  case atStart => exact ⟨0, nx0, [], [], Nat.zero_le _, rfl, rfl, by omega, rfl, (by intro l hl; cases hl), rfl, World.ownsRow_nil _ _ _ _, Below.refl _ _⟩
  case round =>
    obtain ⟨k, n, I, cd, hk, rfl, rfl, hn, HK, HI, HC, hown, hB⟩ := hrel
    by_cases hlt : k < no
    · have hck : wr.cell? ⟨OB, oo + k, none⟩ = some (.int .u8 (os.getD k 0)) := (hB.cell (p := ⟨OB, oo + k, none⟩) hOB).trans (hos k hlt)
      have hbk := hob k hlt
      generalize os.getD k 0 = ob at hck hbk
      obtain ⟨q, hq⟩ : ∃ q : Nat, ob % 42 = (q : Int) := ⟨(ob % 42).toNat, by omega⟩
      have hq42 : q < 42 := by omega
      have hTr := hT.later hB
      have hcase := tab_cases hTr q hq42
      have h0r := hTr.1
      clear hos hob hT hTr
      rcases hcase with ⟨ro, cap, hrow, hr⟩ | ⟨b, off, cap, hrow, hr, hb, hc0⟩ | ⟨b, off, cap, hrow, hr, hb, hc0⟩ | ⟨b, off, cap, hrow, hr, hb, hc0⟩ | ⟨b, off, cap, hrow, hr, hb, hc0, hc1⟩ | ⟨b, off, cap, hrow, hr, hb, hc0, hc1⟩
      · have hABr : AB < wr.heap.size := Nat.lt_of_lt_of_le hAB hB.size
        clear has
        have hins : Ins [(q : Int)] := ⟨q, [], rfl, hq42, by rw [wsum_of hrow]; rfl, all_nil⟩
        have HN := hide hins
        clear hins hrow
        have hsz := hB.size
        have hfl : cd.length ≤ 5 * I.length := by rw [HC.out]; exact flat_len HI.out
        have hIl : I.length ≤ no := by have := HK.out; omega
        go_wp2_with fail
        refine wp_loop_rounds 1 ?_
        rw [rounds_succ]
        go_wp2_with fail
        refine (mk_e_0 q hq42 _ ro cap ?_ _ 0).mono ?_
        · go_side
        rintro e w' ⟨rfl, rfl⟩
        go_wp2_with (at_builtin; go_must (refine wpList_append_lies _ rfl (.tmp 61) (.tmp 62) 22 rfl w.heap.size 5 i0 (.int .u8 0) 1 1 Eeug.underlying22 hi hz0 hz1 hz2 rfl (by decide) u8 cd.length (cd.map (Value.int .u8)) rfl ((hown.alloc _).alloc _) ⟨wr.heap.size + 1, 0, none⟩ 1 1 (List.map (Value.int .u8) [(q : Int)]) rfl rfl (news2 wr _ _ 5) (by simp [Value.oneCell']) (by decide) (by unfold maxLen; omega) (by omega) (by simp; omega) _ rfl ?_; intro g cp w2 hown2 hgrow2 hat2 hlt2; have hown3 := asm_step hown2; have hB2 : Below w.heap.size w w2 := ((hB.alloc hsz _).alloc (by simp; omega) _).grown hgrow2 (by simp; omega) (fun k hk => (hown.lt k hk).1); clear hown2 hgrow2 hat2 hlt2 hown))
        go_roundw
        case rel => exact ⟨k + 1, n, I ++ [[(q : Int)]], cd ++ [(q : Int)], by omega, by go_num, by go_num, by omega, by simp [Hid, HK.out], ins_snoc HI.out (unhide HN), flat_snoc HC.out, hown3, hB2⟩
        case measure => simp [intOf]; omega
      · have hx0 := (hB.cell (p := ⟨AB, ao + n % la, none⟩) hAB).trans (has (n % la) (Nat.mod_lt _ hla0))
        generalize az.getD (n % la) 0 = x0 at hx0
        have hra0 : (0 : Int) ≤ (n : Int) % (la : Int) := Int.emod_nonneg _ (by omega)
        have hrb0 : (n : Int) % (la : Int) < (la : Int) := Int.emod_lt_of_pos _ (by omega)
        have hABr : AB < wr.heap.size := Nat.lt_of_lt_of_le hAB hB.size
        clear has
        have hins : Ins [(q : Int), IntKind.u8.wrap x0] := ⟨q, [IntKind.u8.wrap x0], rfl, hq42, by rw [wsum_of hrow]; rfl, (all_cons (u8b _) all_nil)⟩
        have HN := hide hins
        clear hins hrow
        have hsz := hB.size
        have hfl : cd.length ≤ 5 * I.length := by rw [HC.out]; exact flat_len HI.out
        have hIl : I.length ≤ no := by have := HK.out; omega
        go_wp2_with fail
        refine wp_loop_rounds 2 ?_
        rw [rounds_succ]
        go_wp2_with fail
        rw [rounds_succ]
        go_wp2_with fail
        refine (mk_1_1 q hq42 _ b off cap ?_ ?_ ?_ _ 0 1 x0 ?_ ?_).mono ?_
        · go_side
        · go_side
        · go_side
        · go_side
        · go_side
        rintro e w' ⟨rfl, rfl⟩
        go_wp2_with (at_builtin; go_must (refine wpList_append_lies _ rfl (.tmp 61) (.tmp 62) 22 rfl w.heap.size 5 i0 (.int .u8 0) 1 1 Eeug.underlying22 hi hz0 hz1 hz2 rfl (by decide) u8 cd.length (cd.map (Value.int .u8)) rfl ((hown.alloc _).alloc _) ⟨wr.heap.size + 1, 0, none⟩ 2 2 (List.map (Value.int .u8) [(q : Int), IntKind.u8.wrap x0]) rfl rfl (news2 wr _ _ 5) (by simp [Value.oneCell']) (by decide) (by unfold maxLen; omega) (by omega) (by simp; omega) _ rfl ?_; intro g cp w2 hown2 hgrow2 hat2 hlt2; have hown3 := asm_step hown2; have hB2 : Below w.heap.size w w2 := ((hB.alloc hsz _).alloc (by simp; omega) _).grown hgrow2 (by simp; omega) (fun k hk => (hown.lt k hk).1); clear hown2 hgrow2 hat2 hlt2 hown))
        go_roundw
        case rel => exact ⟨k + 1, n + 1, I ++ [[(q : Int), IntKind.u8.wrap x0]], cd ++ [(q : Int), IntKind.u8.wrap x0], by omega, by go_num, by go_num, by omega, by simp [Hid, HK.out], ins_snoc HI.out (unhide HN), flat_snoc HC.out, hown3, hB2⟩
        case measure => simp [intOf]; omega
      · have hx0 := (hB.cell (p := ⟨AB, ao + n % la, none⟩) hAB).trans (has (n % la) (Nat.mod_lt _ hla0))
        generalize az.getD (n % la) 0 = x0 at hx0
        have hra0 : (0 : Int) ≤ (n : Int) % (la : Int) := Int.emod_nonneg _ (by omega)
        have hrb0 : (n : Int) % (la : Int) < (la : Int) := Int.emod_lt_of_pos _ (by omega)
        have hABr : AB < wr.heap.size := Nat.lt_of_lt_of_le hAB hB.size
        clear has
        have hins : Ins [(q : Int), IntKind.u16.wrap x0 / 256 % 256, IntKind.u16.wrap x0 % 256] := ⟨q, [IntKind.u16.wrap x0 / 256 % 256, IntKind.u16.wrap x0 % 256], rfl, hq42, by rw [wsum_of hrow]; rfl, (all_cons (by omega) (all_cons (by omega) all_nil))⟩
        have HN := hide hins
        clear hins hrow
        have hsz := hB.size
        have hfl : cd.length ≤ 5 * I.length := by rw [HC.out]; exact flat_len HI.out
        have hIl : I.length ≤ no := by have := HK.out; omega
        go_wp2_with fail
        refine wp_loop_rounds 2 ?_
        rw [rounds_succ]
        go_wp2_with fail
        rw [rounds_succ]
        go_wp2_with fail
        refine (mk_2_1 q hq42 _ b off cap ?_ ?_ ?_ _ 0 1 x0 ?_ ?_).mono ?_
        · go_side
        · go_side
        · go_side
        · go_side
        · go_side
        rintro e w' ⟨rfl, rfl⟩
        go_wp2_with (at_builtin; go_must (refine wpList_append_lies _ rfl (.tmp 61) (.tmp 62) 22 rfl w.heap.size 5 i0 (.int .u8 0) 1 1 Eeug.underlying22 hi hz0 hz1 hz2 rfl (by decide) u8 cd.length (cd.map (Value.int .u8)) rfl ((hown.alloc _).alloc _) ⟨wr.heap.size + 1, 0, none⟩ 3 3 (List.map (Value.int .u8) [(q : Int), IntKind.u16.wrap x0 / 256 % 256, IntKind.u16.wrap x0 % 256]) rfl rfl (news2 wr _ _ 5) (by simp [Value.oneCell']) (by decide) (by unfold maxLen; omega) (by omega) (by simp; omega) _ rfl ?_; intro g cp w2 hown2 hgrow2 hat2 hlt2; have hown3 := asm_step hown2; have hB2 : Below w.heap.size w w2 := ((hB.alloc hsz _).alloc (by simp; omega) _).grown hgrow2 (by simp; omega) (fun k hk => (hown.lt k hk).1); clear hown2 hgrow2 hat2 hlt2 hown))
        go_roundw
        case rel => exact ⟨k + 1, n + 1, I ++ [[(q : Int), IntKind.u16.wrap x0 / 256 % 256, IntKind.u16.wrap x0 % 256]], cd ++ [(q : Int), IntKind.u16.wrap x0 / 256 % 256, IntKind.u16.wrap x0 % 256], by omega, by go_num, by go_num, by omega, by simp [Hid, HK.out], ins_snoc HI.out (unhide HN), flat_snoc HC.out, hown3, hB2⟩
        case measure => simp [intOf]; omega
      · have hx0 := (hB.cell (p := ⟨AB, ao + n % la, none⟩) hAB).trans (has (n % la) (Nat.mod_lt _ hla0))
        generalize az.getD (n % la) 0 = x0 at hx0
        have hra0 : (0 : Int) ≤ (n : Int) % (la : Int) := Int.emod_nonneg _ (by omega)
        have hrb0 : (n : Int) % (la : Int) < (la : Int) := Int.emod_lt_of_pos _ (by omega)
        have hABr : AB < wr.heap.size := Nat.lt_of_lt_of_le hAB hB.size
        clear has
        have hins : Ins [(q : Int), x0 % 4294967296 / 16777216, x0 % 4294967296 / 65536 % 256, x0 % 4294967296 / 256 % 256, x0 % 256] := ⟨q, [x0 % 4294967296 / 16777216, x0 % 4294967296 / 65536 % 256, x0 % 4294967296 / 256 % 256, x0 % 256], rfl, hq42, by rw [wsum_of hrow]; rfl, (all_cons (by omega) (all_cons (by omega) (all_cons (by omega) (all_cons (by omega) all_nil))))⟩
        have HN := hide hins
        clear hins hrow
        have hsz := hB.size
        have hfl : cd.length ≤ 5 * I.length := by rw [HC.out]; exact flat_len HI.out
        have hIl : I.length ≤ no := by have := HK.out; omega
        go_wp2_with fail
        refine wp_loop_rounds 2 ?_
        rw [rounds_succ]
        go_wp2_with fail
        rw [rounds_succ]
        go_wp2_with fail
        refine (mk_4_1 q hq42 _ b off cap ?_ ?_ ?_ _ 0 1 x0 ?_ ?_).mono ?_
        · go_side
        · go_side
        · go_side
        · go_side
        · go_side
        rintro e w' ⟨rfl, rfl⟩
        go_wp2_with (at_builtin; go_must (refine wpList_append_lies _ rfl (.tmp 61) (.tmp 62) 22 rfl w.heap.size 5 i0 (.int .u8 0) 1 1 Eeug.underlying22 hi hz0 hz1 hz2 rfl (by decide) u8 cd.length (cd.map (Value.int .u8)) rfl ((hown.alloc _).alloc _) ⟨wr.heap.size + 1, 0, none⟩ 5 5 (List.map (Value.int .u8) [(q : Int), x0 % 4294967296 / 16777216, x0 % 4294967296 / 65536 % 256, x0 % 4294967296 / 256 % 256, x0 % 256]) rfl rfl (news2 wr _ _ 5) (by simp [Value.oneCell']) (by decide) (by unfold maxLen; omega) (by omega) (by simp; omega) _ rfl ?_; intro g cp w2 hown2 hgrow2 hat2 hlt2; have hown3 := asm_step hown2; have hB2 : Below w.heap.size w w2 := ((hB.alloc hsz _).alloc (by simp; omega) _).grown hgrow2 (by simp; omega) (fun k hk => (hown.lt k hk).1); clear hown2 hgrow2 hat2 hlt2 hown))
        go_roundw
        case rel => exact ⟨k + 1, n + 1, I ++ [[(q : Int), x0 % 4294967296 / 16777216, x0 % 4294967296 / 65536 % 256, x0 % 4294967296 / 256 % 256, x0 % 256]], cd ++ [(q : Int), x0 % 4294967296 / 16777216, x0 % 4294967296 / 65536 % 256, x0 % 4294967296 / 256 % 256, x0 % 256], by omega, by go_num, by go_num, by omega, by simp [Hid, HK.out], ins_snoc HI.out (unhide HN), flat_snoc HC.out, hown3, hB2⟩
        case measure => simp [intOf]; omega
      · have hx0 := (hB.cell (p := ⟨AB, ao + n % la, none⟩) hAB).trans (has (n % la) (Nat.mod_lt _ hla0))
        generalize az.getD (n % la) 0 = x0 at hx0
        have hra0 : (0 : Int) ≤ (n : Int) % (la : Int) := Int.emod_nonneg _ (by omega)
        have hrb0 : (n : Int) % (la : Int) < (la : Int) := Int.emod_lt_of_pos _ (by omega)
        have hx1 := (hB.cell (p := ⟨AB, ao + (n + 1) % la, none⟩) hAB).trans (has ((n + 1) % la) (Nat.mod_lt _ hla0))
        generalize az.getD ((n + 1) % la) 0 = x1 at hx1
        have hra1 : (0 : Int) ≤ ((n : Int) + 1) % (la : Int) := Int.emod_nonneg _ (by omega)
        have hrb1 : ((n : Int) + 1) % (la : Int) < (la : Int) := Int.emod_lt_of_pos _ (by omega)
        have hABr : AB < wr.heap.size := Nat.lt_of_lt_of_le hAB hB.size
        clear has
        have hins : Ins [(q : Int), IntKind.u8.wrap x0, IntKind.u8.wrap x1] := ⟨q, [IntKind.u8.wrap x0, IntKind.u8.wrap x1], rfl, hq42, by rw [wsum_of hrow]; rfl, (all_cons (u8b _) (all_cons (u8b _) all_nil))⟩
        have HN := hide hins
        clear hins hrow
        have hsz := hB.size
        have hfl : cd.length ≤ 5 * I.length := by rw [HC.out]; exact flat_len HI.out
        have hIl : I.length ≤ no := by have := HK.out; omega
        go_wp2_with fail
        refine wp_loop_rounds 3 ?_
        rw [rounds_succ]
        go_wp2_with fail
        rw [rounds_succ]
        go_wp2_with fail
        rw [rounds_succ]
        go_wp2_with fail
        refine (mk_11_2 q hq42 _ b off cap ?_ ?_ ?_ ?_ _ 0 2 x0 ?_ x1 ?_ ?_).mono ?_
        · go_side
        · go_side
        · go_side
        · go_side
        · go_side
        · go_side
        · go_side
        rintro e w' ⟨rfl, rfl⟩
        go_wp2_with (at_builtin; go_must (refine wpList_append_lies _ rfl (.tmp 61) (.tmp 62) 22 rfl w.heap.size 5 i0 (.int .u8 0) 1 1 Eeug.underlying22 hi hz0 hz1 hz2 rfl (by decide) u8 cd.length (cd.map (Value.int .u8)) rfl ((hown.alloc _).alloc _) ⟨wr.heap.size + 1, 0, none⟩ 3 3 (List.map (Value.int .u8) [(q : Int), IntKind.u8.wrap x0, IntKind.u8.wrap x1]) rfl rfl (news2 wr _ _ 5) (by simp [Value.oneCell']) (by decide) (by unfold maxLen; omega) (by omega) (by simp; omega) _ rfl ?_; intro g cp w2 hown2 hgrow2 hat2 hlt2; have hown3 := asm_step hown2; have hB2 : Below w.heap.size w w2 := ((hB.alloc hsz _).alloc (by simp; omega) _).grown hgrow2 (by simp; omega) (fun k hk => (hown.lt k hk).1); clear hown2 hgrow2 hat2 hlt2 hown))
        go_roundw
        case rel => exact ⟨k + 1, n + 2, I ++ [[(q : Int), IntKind.u8.wrap x0, IntKind.u8.wrap x1]], cd ++ [(q : Int), IntKind.u8.wrap x0, IntKind.u8.wrap x1], by omega, by go_num, by go_num, by omega, by simp [Hid, HK.out], ins_snoc HI.out (unhide HN), flat_snoc HC.out, hown3, hB2⟩
        case measure => simp [intOf]; omega
      · have hx0 := (hB.cell (p := ⟨AB, ao + n % la, none⟩) hAB).trans (has (n % la) (Nat.mod_lt _ hla0))
        generalize az.getD (n % la) 0 = x0 at hx0
        have hra0 : (0 : Int) ≤ (n : Int) % (la : Int) := Int.emod_nonneg _ (by omega)
        have hrb0 : (n : Int) % (la : Int) < (la : Int) := Int.emod_lt_of_pos _ (by omega)
        have hx1 := (hB.cell (p := ⟨AB, ao + (n + 1) % la, none⟩) hAB).trans (has ((n + 1) % la) (Nat.mod_lt _ hla0))
        generalize az.getD ((n + 1) % la) 0 = x1 at hx1
        have hra1 : (0 : Int) ≤ ((n : Int) + 1) % (la : Int) := Int.emod_nonneg _ (by omega)
        have hrb1 : ((n : Int) + 1) % (la : Int) < (la : Int) := Int.emod_lt_of_pos _ (by omega)
        have hABr : AB < wr.heap.size := Nat.lt_of_lt_of_le hAB hB.size
        clear has
        have hins : Ins [(q : Int), IntKind.u16.wrap x0 / 256 % 256, IntKind.u16.wrap x0 % 256, IntKind.u8.wrap x1] := ⟨q, [IntKind.u16.wrap x0 / 256 % 256, IntKind.u16.wrap x0 % 256, IntKind.u8.wrap x1], rfl, hq42, by rw [wsum_of hrow]; rfl, (all_cons (by omega) (all_cons (by omega) (all_cons (u8b _) all_nil)))⟩
        have HN := hide hins
        clear hins hrow
        have hsz := hB.size
        have hfl : cd.length ≤ 5 * I.length := by rw [HC.out]; exact flat_len HI.out
        have hIl : I.length ≤ no := by have := HK.out; omega
        go_wp2_with fail
        refine wp_loop_rounds 3 ?_
        rw [rounds_succ]
        go_wp2_with fail
        rw [rounds_succ]
        go_wp2_with fail
        rw [rounds_succ]
        go_wp2_with fail
        refine (mk_21_2 q hq42 _ b off cap ?_ ?_ ?_ ?_ _ 0 2 x0 ?_ x1 ?_ ?_).mono ?_
        · go_side
        · go_side
        · go_side
        · go_side
        · go_side
        · go_side
        · go_side
        rintro e w' ⟨rfl, rfl⟩
        go_wp2_with (at_builtin; go_must (refine wpList_append_lies _ rfl (.tmp 61) (.tmp 62) 22 rfl w.heap.size 5 i0 (.int .u8 0) 1 1 Eeug.underlying22 hi hz0 hz1 hz2 rfl (by decide) u8 cd.length (cd.map (Value.int .u8)) rfl ((hown.alloc _).alloc _) ⟨wr.heap.size + 1, 0, none⟩ 4 4 (List.map (Value.int .u8) [(q : Int), IntKind.u16.wrap x0 / 256 % 256, IntKind.u16.wrap x0 % 256, IntKind.u8.wrap x1]) rfl rfl (news2 wr _ _ 5) (by simp [Value.oneCell']) (by decide) (by unfold maxLen; omega) (by omega) (by simp; omega) _ rfl ?_; intro g cp w2 hown2 hgrow2 hat2 hlt2; have hown3 := asm_step hown2; have hB2 : Below w.heap.size w w2 := ((hB.alloc hsz _).alloc (by simp; omega) _).grown hgrow2 (by simp; omega) (fun k hk => (hown.lt k hk).1); clear hown2 hgrow2 hat2 hlt2 hown))
        go_roundw
        case rel => exact ⟨k + 1, n + 2, I ++ [[(q : Int), IntKind.u16.wrap x0 / 256 % 256, IntKind.u16.wrap x0 % 256, IntKind.u8.wrap x1]], cd ++ [(q : Int), IntKind.u16.wrap x0 / 256 % 256, IntKind.u16.wrap x0 % 256, IntKind.u8.wrap x1], by omega, by go_num, by go_num, by omega, by simp [Hid, HK.out], ins_snoc HI.out (unhide HN), flat_snoc HC.out, hown3, hB2⟩
        case measure => simp [intOf]; omega
    · obtain rfl : k = no := by omega
      have HO := hide hown
      clear hown
      go_wp2
      go_ret2
      exact ⟨I, n, u8, rfl, HK.out, HI.out, hn, HC.out ▸ unhide HO, hB⟩

set_option maxHeartbeats 4000000 in
theorem asm0 (w : World) (hT : Tab w) (OB oo no ocap : Nat) (aa : Option Addr) (acap nx0 : Nat) (os : List Int) (hno : no ≤ 65536)
    (hOB : OB < w.heap.size)
    (hos : ∀ j, j < no → w.cell? ⟨OB, oo + j, none⟩ = some (.int .u8 (os.getD j 0))) (hob : ∀ j, j < no → 0 ≤ os.getD j 0 ∧ os.getD j 0 ≤ 255) :
    Calls Eeug.prog 9 #[.slice (some ⟨OB, oo, none⟩) no ocap, .slice aa 0 acap, .int .i64 nx0] w fun e w' => ∃ (I : List (List Int)) (nx : Nat) (v : Value), e = .returned (.tuple #[v, .int .i64 nx]) ∧
      I.length = no ∧ (∀ l ∈ I, Ins l) ∧ nx ≤ nx0 + 2 * no ∧ w'.ownsRow w.heap.size 5 1 v I.flatten.length (I.flatten.map (Value.int .u8)) ∧ Below w.heap.size w w' := by
  obtain ⟨i0, hi, hz0, hz1, hz2⟩ := info_parts info5c
  have hmk0 : ∀ w : World, (Instr.makeSlice 23 (.int .i64 0) (.int .i64 0)).run Eeug.prog w = .ok (.slice (some ⟨w.heap.size, 0, none⟩) 0 0) (w.alloc (.cells #[] 3)) := fun _ => by kernel_rfl
  have hmk1 : ∀ w : World, (Instr.makeSlice 23 (.int .i64 1) (.int .i64 1)).run Eeug.prog w = .ok (.slice (some ⟨w.heap.size, 0, none⟩) 1 1) (w.alloc (.cells #[.int .i64 0] 3)) := fun _ => by kernel_rfl
  have hmk2 : ∀ w : World, (Instr.makeSlice 23 (.int .i64 2) (.int .i64 2)).run Eeug.prog w = .ok (.slice (some ⟨w.heap.size, 0, none⟩) 2 2) (w.alloc (.cells #[.int .i64 0, .int .i64 0] 3)) := fun _ => by kernel_rfl
  go_enter Eeug.func9, Eeug.ntmps9
  go_wp2
  go_loopw [2, 8, 10] (fun nx v i wr => ∃ (k n : Nat) (I : List (List Int)) (cd : List Int), k ≤ no ∧ i = .int .i64 k ∧ nx = .int .i64 n ∧ n ≤ nx0 + 2 * k ∧ Hid (I.length = k) ∧ Hid (∀ l ∈ I, Ins l) ∧ Hid (cd = I.flatten) ∧ wr.ownsRow w.heap.size 5 1 v cd.length (cd.map (Value.int .u8)) ∧ Below w.heap.size w wr)
    (fun _ _ i _ => no - (intOf i).toNat)
  case atStart => exact ⟨0, nx0, [], [], Nat.zero_le _, rfl, rfl, by omega, rfl, (by intro l hl; cases hl), rfl, World.ownsRow_nil _ _ _ _, Below.refl _ _⟩
  case round =>
    obtain ⟨k, n, I, cd, hk, rfl, rfl, hn, HK, HI, HC, hown, hB⟩ := hrel
    by_cases hlt : k < no
    · have hck : wr.cell? ⟨OB, oo + k, none⟩ = some (.int .u8 (os.getD k 0)) := (hB.cell (p := ⟨OB, oo + k, none⟩) hOB).trans (hos k hlt)
      have hbk := hob k hlt
      generalize os.getD k 0 = ob at hck hbk
      obtain ⟨q, hq⟩ : ∃ q : Nat, ob % 42 = (q : Int) := ⟨(ob % 42).toNat, by omega⟩
      have hq42 : q < 42 := by omega
      have hTr := hT.later hB
      have hcase := tab_cases hTr q hq42
      have h0r := hTr.1
      clear hos hob hT hTr
      rcases hcase with ⟨ro, cap, hrow, hr⟩ | ⟨b, off, cap, hrow, hr, hb, hc0⟩ | ⟨b, off, cap, hrow, hr, hb, hc0⟩ | ⟨b, off, cap, hrow, hr, hb, hc0⟩ | ⟨b, off, cap, hrow, hr, hb, hc0, hc1⟩ | ⟨b, off, cap, hrow, hr, hb, hc0, hc1⟩
      · have hins : Ins [(q : Int)] := ⟨q, [], rfl, hq42, by rw [wsum_of hrow]; rfl, all_nil⟩
        have HN := hide hins
        clear hins hrow
        have hsz := hB.size
        have hfl : cd.length ≤ 5 * I.length := by rw [HC.out]; exact flat_len HI.out
        have hIl : I.length ≤ no := by have := HK.out; omega
        go_wp2_with fail
        refine wp_loop_rounds 1 ?_
        rw [rounds_succ]
        go_wp2_with fail
        refine (mk_e_0 q hq42 _ ro cap ?_ _ 0).mono ?_
        · go_side
        rintro e w' ⟨rfl, rfl⟩
        go_wp2_with (at_builtin; go_must (refine wpList_append_lies _ rfl (.tmp 61) (.tmp 62) 22 rfl w.heap.size 5 i0 (.int .u8 0) 1 1 Eeug.underlying22 hi hz0 hz1 hz2 rfl (by decide) u8 cd.length (cd.map (Value.int .u8)) rfl ((hown.alloc _).alloc _) ⟨wr.heap.size + 1, 0, none⟩ 1 1 (List.map (Value.int .u8) [(q : Int)]) rfl rfl (news2 wr _ _ 5) (by simp [Value.oneCell']) (by decide) (by unfold maxLen; omega) (by omega) (by simp; omega) _ rfl ?_; intro g cp w2 hown2 hgrow2 hat2 hlt2; have hown3 := asm_step hown2; have hB2 : Below w.heap.size w w2 := ((hB.alloc hsz _).alloc (by simp; omega) _).grown hgrow2 (by simp; omega) (fun k hk => (hown.lt k hk).1); clear hown2 hgrow2 hat2 hlt2 hown))
        go_roundw
        case rel => exact ⟨k + 1, n, I ++ [[(q : Int)]], cd ++ [(q : Int)], by omega, by go_num, by go_num, by omega, by simp [Hid, HK.out], ins_snoc HI.out (unhide HN), flat_snoc HC.out, hown3, hB2⟩
        case measure => simp [intOf]; omega
      · have hins : Ins [(q : Int), IntKind.u8.wrap 0] := ⟨q, [IntKind.u8.wrap 0], rfl, hq42, by rw [wsum_of hrow]; rfl, (all_cons (u8b _) all_nil)⟩
        have HN := hide hins
        clear hins hrow
        have hsz := hB.size
        have hfl : cd.length ≤ 5 * I.length := by rw [HC.out]; exact flat_len HI.out
        have hIl : I.length ≤ no := by have := HK.out; omega
        go_wp2_with fail
        refine wp_loop_rounds 2 ?_
        rw [rounds_succ]
        go_wp2_with fail
        rw [rounds_succ]
        go_wp2_with fail
        refine (mk_1_1 q hq42 _ b off cap ?_ ?_ ?_ _ 0 1 0 ?_ ?_).mono ?_
        · go_side
        · go_side
        · go_side
        · go_side
        · go_side
        rintro e w' ⟨rfl, rfl⟩
        go_wp2_with (at_builtin; go_must (refine wpList_append_lies _ rfl (.tmp 61) (.tmp 62) 22 rfl w.heap.size 5 i0 (.int .u8 0) 1 1 Eeug.underlying22 hi hz0 hz1 hz2 rfl (by decide) u8 cd.length (cd.map (Value.int .u8)) rfl ((hown.alloc _).alloc _) ⟨wr.heap.size + 1, 0, none⟩ 2 2 (List.map (Value.int .u8) [(q : Int), IntKind.u8.wrap 0]) rfl rfl (news2 wr _ _ 5) (by simp [Value.oneCell']) (by decide) (by unfold maxLen; omega) (by omega) (by simp; omega) _ rfl ?_; intro g cp w2 hown2 hgrow2 hat2 hlt2; have hown3 := asm_step hown2; have hB2 : Below w.heap.size w w2 := ((hB.alloc hsz _).alloc (by simp; omega) _).grown hgrow2 (by simp; omega) (fun k hk => (hown.lt k hk).1); clear hown2 hgrow2 hat2 hlt2 hown))
        go_roundw
        case rel => exact ⟨k + 1, n, I ++ [[(q : Int), IntKind.u8.wrap 0]], cd ++ [(q : Int), IntKind.u8.wrap 0], by omega, by go_num, by go_num, by omega, by simp [Hid, HK.out], ins_snoc HI.out (unhide HN), flat_snoc HC.out, hown3, hB2⟩
        case measure => simp [intOf]; omega
      · have hins : Ins [(q : Int), IntKind.u16.wrap 0 / 256 % 256, IntKind.u16.wrap 0 % 256] := ⟨q, [IntKind.u16.wrap 0 / 256 % 256, IntKind.u16.wrap 0 % 256], rfl, hq42, by rw [wsum_of hrow]; rfl, (all_cons (by omega) (all_cons (by omega) all_nil))⟩
        have HN := hide hins
        clear hins hrow
        have hsz := hB.size
        have hfl : cd.length ≤ 5 * I.length := by rw [HC.out]; exact flat_len HI.out
        have hIl : I.length ≤ no := by have := HK.out; omega
        go_wp2_with fail
        refine wp_loop_rounds 2 ?_
        rw [rounds_succ]
        go_wp2_with fail
        rw [rounds_succ]
        go_wp2_with fail
        refine (mk_2_1 q hq42 _ b off cap ?_ ?_ ?_ _ 0 1 0 ?_ ?_).mono ?_
        · go_side
        · go_side
        · go_side
        · go_side
        · go_side
        rintro e w' ⟨rfl, rfl⟩
        go_wp2_with (at_builtin; go_must (refine wpList_append_lies _ rfl (.tmp 61) (.tmp 62) 22 rfl w.heap.size 5 i0 (.int .u8 0) 1 1 Eeug.underlying22 hi hz0 hz1 hz2 rfl (by decide) u8 cd.length (cd.map (Value.int .u8)) rfl ((hown.alloc _).alloc _) ⟨wr.heap.size + 1, 0, none⟩ 3 3 (List.map (Value.int .u8) [(q : Int), IntKind.u16.wrap 0 / 256 % 256, IntKind.u16.wrap 0 % 256]) rfl rfl (news2 wr _ _ 5) (by simp [Value.oneCell']) (by decide) (by unfold maxLen; omega) (by omega) (by simp; omega) _ rfl ?_; intro g cp w2 hown2 hgrow2 hat2 hlt2; have hown3 := asm_step hown2; have hB2 : Below w.heap.size w w2 := ((hB.alloc hsz _).alloc (by simp; omega) _).grown hgrow2 (by simp; omega) (fun k hk => (hown.lt k hk).1); clear hown2 hgrow2 hat2 hlt2 hown))
        go_roundw
        case rel => exact ⟨k + 1, n, I ++ [[(q : Int), IntKind.u16.wrap 0 / 256 % 256, IntKind.u16.wrap 0 % 256]], cd ++ [(q : Int), IntKind.u16.wrap 0 / 256 % 256, IntKind.u16.wrap 0 % 256], by omega, by go_num, by go_num, by omega, by simp [Hid, HK.out], ins_snoc HI.out (unhide HN), flat_snoc HC.out, hown3, hB2⟩
        case measure => simp [intOf]; omega
      · have hins : Ins [(q : Int), 0 % 4294967296 / 16777216, 0 % 4294967296 / 65536 % 256, 0 % 4294967296 / 256 % 256, 0 % 256] := ⟨q, [0 % 4294967296 / 16777216, 0 % 4294967296 / 65536 % 256, 0 % 4294967296 / 256 % 256, 0 % 256], rfl, hq42, by rw [wsum_of hrow]; rfl, (all_cons (by omega) (all_cons (by omega) (all_cons (by omega) (all_cons (by omega) all_nil))))⟩
        have HN := hide hins
        clear hins hrow
        have hsz := hB.size
        have hfl : cd.length ≤ 5 * I.length := by rw [HC.out]; exact flat_len HI.out
        have hIl : I.length ≤ no := by have := HK.out; omega
        go_wp2_with fail
        refine wp_loop_rounds 2 ?_
        rw [rounds_succ]
        go_wp2_with fail
        rw [rounds_succ]
        go_wp2_with fail
        refine (mk_4_1 q hq42 _ b off cap ?_ ?_ ?_ _ 0 1 0 ?_ ?_).mono ?_
        · go_side
        · go_side
        · go_side
        · go_side
        · go_side
        rintro e w' ⟨rfl, rfl⟩
        go_wp2_with (at_builtin; go_must (refine wpList_append_lies _ rfl (.tmp 61) (.tmp 62) 22 rfl w.heap.size 5 i0 (.int .u8 0) 1 1 Eeug.underlying22 hi hz0 hz1 hz2 rfl (by decide) u8 cd.length (cd.map (Value.int .u8)) rfl ((hown.alloc _).alloc _) ⟨wr.heap.size + 1, 0, none⟩ 5 5 (List.map (Value.int .u8) [(q : Int), 0 % 4294967296 / 16777216, 0 % 4294967296 / 65536 % 256, 0 % 4294967296 / 256 % 256, 0 % 256]) rfl rfl (news2 wr _ _ 5) (by simp [Value.oneCell']) (by decide) (by unfold maxLen; omega) (by omega) (by simp; omega) _ rfl ?_; intro g cp w2 hown2 hgrow2 hat2 hlt2; have hown3 := asm_step hown2; have hB2 : Below w.heap.size w w2 := ((hB.alloc hsz _).alloc (by simp; omega) _).grown hgrow2 (by simp; omega) (fun k hk => (hown.lt k hk).1); clear hown2 hgrow2 hat2 hlt2 hown))
        go_roundw
        case rel => exact ⟨k + 1, n, I ++ [[(q : Int), 0 % 4294967296 / 16777216, 0 % 4294967296 / 65536 % 256, 0 % 4294967296 / 256 % 256, 0 % 256]], cd ++ [(q : Int), 0 % 4294967296 / 16777216, 0 % 4294967296 / 65536 % 256, 0 % 4294967296 / 256 % 256, 0 % 256], by omega, by go_num, by go_num, by omega, by simp [Hid, HK.out], ins_snoc HI.out (unhide HN), flat_snoc HC.out, hown3, hB2⟩
        case measure => simp [intOf]; omega
      · have hins : Ins [(q : Int), IntKind.u8.wrap 0, IntKind.u8.wrap 0] := ⟨q, [IntKind.u8.wrap 0, IntKind.u8.wrap 0], rfl, hq42, by rw [wsum_of hrow]; rfl, (all_cons (u8b _) (all_cons (u8b _) all_nil))⟩
        have HN := hide hins
        clear hins hrow
        have hsz := hB.size
        have hfl : cd.length ≤ 5 * I.length := by rw [HC.out]; exact flat_len HI.out
        have hIl : I.length ≤ no := by have := HK.out; omega
        go_wp2_with fail
        refine wp_loop_rounds 3 ?_
        rw [rounds_succ]
        go_wp2_with fail
        rw [rounds_succ]
        go_wp2_with fail
        rw [rounds_succ]
        go_wp2_with fail
        refine (mk_11_2 q hq42 _ b off cap ?_ ?_ ?_ ?_ _ 0 2 0 ?_ 0 ?_ ?_).mono ?_
        · go_side
        · go_side
        · go_side
        · go_side
        · go_side
        · go_side
        · go_side
        rintro e w' ⟨rfl, rfl⟩
        go_wp2_with (at_builtin; go_must (refine wpList_append_lies _ rfl (.tmp 61) (.tmp 62) 22 rfl w.heap.size 5 i0 (.int .u8 0) 1 1 Eeug.underlying22 hi hz0 hz1 hz2 rfl (by decide) u8 cd.length (cd.map (Value.int .u8)) rfl ((hown.alloc _).alloc _) ⟨wr.heap.size + 1, 0, none⟩ 3 3 (List.map (Value.int .u8) [(q : Int), IntKind.u8.wrap 0, IntKind.u8.wrap 0]) rfl rfl (news2 wr _ _ 5) (by simp [Value.oneCell']) (by decide) (by unfold maxLen; omega) (by omega) (by simp; omega) _ rfl ?_; intro g cp w2 hown2 hgrow2 hat2 hlt2; have hown3 := asm_step hown2; have hB2 : Below w.heap.size w w2 := ((hB.alloc hsz _).alloc (by simp; omega) _).grown hgrow2 (by simp; omega) (fun k hk => (hown.lt k hk).1); clear hown2 hgrow2 hat2 hlt2 hown))
        go_roundw
        case rel => exact ⟨k + 1, n, I ++ [[(q : Int), IntKind.u8.wrap 0, IntKind.u8.wrap 0]], cd ++ [(q : Int), IntKind.u8.wrap 0, IntKind.u8.wrap 0], by omega, by go_num, by go_num, by omega, by simp [Hid, HK.out], ins_snoc HI.out (unhide HN), flat_snoc HC.out, hown3, hB2⟩
        case measure => simp [intOf]; omega
      · have hins : Ins [(q : Int), IntKind.u16.wrap 0 / 256 % 256, IntKind.u16.wrap 0 % 256, IntKind.u8.wrap 0] := ⟨q, [IntKind.u16.wrap 0 / 256 % 256, IntKind.u16.wrap 0 % 256, IntKind.u8.wrap 0], rfl, hq42, by rw [wsum_of hrow]; rfl, (all_cons (by omega) (all_cons (by omega) (all_cons (u8b _) all_nil)))⟩
        have HN := hide hins
        clear hins hrow
        have hsz := hB.size
        have hfl : cd.length ≤ 5 * I.length := by rw [HC.out]; exact flat_len HI.out
        have hIl : I.length ≤ no := by have := HK.out; omega
        go_wp2_with fail
        refine wp_loop_rounds 3 ?_
        rw [rounds_succ]
        go_wp2_with fail
        rw [rounds_succ]
        go_wp2_with fail
        rw [rounds_succ]
        go_wp2_with fail
        refine (mk_21_2 q hq42 _ b off cap ?_ ?_ ?_ ?_ _ 0 2 0 ?_ 0 ?_ ?_).mono ?_
        · go_side
        · go_side
        · go_side
        · go_side
        · go_side
        · go_side
        · go_side
        rintro e w' ⟨rfl, rfl⟩
        go_wp2_with (at_builtin; go_must (refine wpList_append_lies _ rfl (.tmp 61) (.tmp 62) 22 rfl w.heap.size 5 i0 (.int .u8 0) 1 1 Eeug.underlying22 hi hz0 hz1 hz2 rfl (by decide) u8 cd.length (cd.map (Value.int .u8)) rfl ((hown.alloc _).alloc _) ⟨wr.heap.size + 1, 0, none⟩ 4 4 (List.map (Value.int .u8) [(q : Int), IntKind.u16.wrap 0 / 256 % 256, IntKind.u16.wrap 0 % 256, IntKind.u8.wrap 0]) rfl rfl (news2 wr _ _ 5) (by simp [Value.oneCell']) (by decide) (by unfold maxLen; omega) (by omega) (by simp; omega) _ rfl ?_; intro g cp w2 hown2 hgrow2 hat2 hlt2; have hown3 := asm_step hown2; have hB2 : Below w.heap.size w w2 := ((hB.alloc hsz _).alloc (by simp; omega) _).grown hgrow2 (by simp; omega) (fun k hk => (hown.lt k hk).1); clear hown2 hgrow2 hat2 hlt2 hown))
        go_roundw
        case rel => exact ⟨k + 1, n, I ++ [[(q : Int), IntKind.u16.wrap 0 / 256 % 256, IntKind.u16.wrap 0 % 256, IntKind.u8.wrap 0]], cd ++ [(q : Int), IntKind.u16.wrap 0 / 256 % 256, IntKind.u16.wrap 0 % 256, IntKind.u8.wrap 0], by omega, by go_num, by go_num, by omega, by simp [Hid, HK.out], ins_snoc HI.out (unhide HN), flat_snoc HC.out, hown3, hB2⟩
        case measure => simp [intOf]; omega
    · obtain rfl : k = no := by omega
      have HO := hide hown
      clear hown
      go_wp2
      go_ret2
      exact ⟨I, n, u8, rfl, HK.out, HI.out, hn, HC.out ▸ unhide HO, hB⟩

set_option maxHeartbeats 400000 in
theorem asm_e (w : World) (oa : Option Addr) (ocap : Nat) (v : Value) (nx : Int) :
    Calls Eeug.prog 9 #[.slice oa 0 ocap, v, .int .i64 nx] w fun e w' => e = .returned (.tuple #[.slice none 0 0, .int .i64 nx]) ∧ w = w' := by
  go_enter Eeug.func9, Eeug.ntmps9
  go_wp2_with fail
  refine wp_loop_rounds 1 ?_
  rw [rounds_succ]
  go_wp2_with fail
  go_ret2
  exact ⟨rfl, rfl⟩

end Go.Proofs.YoeeuwFmt

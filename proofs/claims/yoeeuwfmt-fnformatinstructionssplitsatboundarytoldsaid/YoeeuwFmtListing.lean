/-
  OUR OWN. The contract of FormatInstructions over a code that is a list of whole instructions. By program (wip/gen/gen_fmt.py).
-/
import Derived.Test.YoeeuwFmtRd
import Derived.Test.YoeeuwFmtClone
import Derived.Test.YoeeuwFmtLines
import Derived.Deep.DeepMust
namespace Go.Proofs.YoeeuwFmt
open Go.RowKit Go.Extern.Stop Go.Stop Go.Extern

theorem call15 (args : Array Value) (w : World) : (callFunc 15 args).run Eeug.prog w = ((FmtStop.sprintf #[9, 58] #[9] args).run Eeug.prog w).andThen fun v w' => .ok (.value v) w' :=
  run_callFunc_extern Eeug.func15 (by kernel_rfl) (by kernel_rfl) (by kernel_rfl) (by kernel_rfl) args w
theorem guard (name : String) (w : World) : (FmtStop.guard name).run Eeug.prog w = .ok () w := by kernel_rfl
theorem fmt0r (w : World) : (FmtDoors.printed ⟨#[37, 48, 52, 100, 32, 37, 45, 55, 115]⟩ 2).run Eeug.prog w = .ok [(0, 100, false), (1, 115, false)] w := by kernel_rfl
theorem fmt0p : FmtStop.printed? ⟨#[37, 48, 52, 100, 32, 37, 45, 55, 115]⟩ 2 = some [(0, 100, false), (1, 115, false)] := by kernel_rfl
theorem fmt1r (w : World) : (FmtDoors.printed ⟨#[37, 48, 52, 100, 32, 37, 45, 55, 115, 32, 37, 45, 53, 100]⟩ 3).run Eeug.prog w = .ok [(0, 100, false), (1, 115, false), (2, 100, false)] w := by kernel_rfl
theorem fmt1p : FmtStop.printed? ⟨#[37, 48, 52, 100, 32, 37, 45, 55, 115, 32, 37, 45, 53, 100]⟩ 3 = some [(0, 100, false), (1, 115, false), (2, 100, false)] := by kernel_rfl
theorem fmt2r (w : World) : (FmtDoors.printed ⟨#[37, 48, 52, 100, 32, 37, 45, 55, 115, 32, 37, 45, 53, 100, 32, 37, 45, 53, 100]⟩ 4).run Eeug.prog w = .ok [(0, 100, false), (1, 115, false), (2, 100, false), (3, 100, false)] w := by kernel_rfl
theorem fmt2p : FmtStop.printed? ⟨#[37, 48, 52, 100, 32, 37, 45, 55, 115, 32, 37, 45, 53, 100, 32, 37, 45, 53, 100]⟩ 4 = some [(0, 100, false), (1, 115, false), (2, 100, false), (3, 100, false)] := by kernel_rfl
theorem op3_100 (name : String) (x : Int) (w : World) : (FmtStop.operand name false 100 false (.iface 3 (.int .i64 x))).run Eeug.prog w = .ok (shape3, Go.Extern.Stop.digits 8 (x % 2 ^ 64).toNat) w := by kernel_rfl
theorem op9_115 (name : String) (x : ByteArray) (w : World) : (FmtStop.operand name false 115 false (.iface 9 (.string x))).run Eeug.prog w = .ok (shape9, FmtStop.pack x.data.toList) w := by kernel_rfl
attribute [local go_sem] call15 guard fmt0r fmt0p fmt1r fmt1p fmt2r fmt2p op3_100 op9_115

theorem w64 (n : Int) : wrap64 n = IntKind.i64.wrap n := by rw [IntKind.wrap_i64, wrap64]
theorem info9 : (Eeug.prog.info? 9).map (fun i => (i.zero, i.size, i.bytes)) = some (some (.string ByteArray.empty), 1, 16) := by kernel_rfl
theorem list0 (l : List Int) (h : l.length = 0) : l = [] := List.eq_nil_of_length_eq_zero h
theorem list1 (l : List Int) (h : l.length = 1) : ∃ a, l = [a] := match l, h with | [a], _ => ⟨a, rfl⟩
theorem list2 (l : List Int) (h : l.length = 2) : ∃ a b, l = [a, b] := match l, h with | [a, b], _ => ⟨a, b, rfl⟩
theorem list3 (l : List Int) (h : l.length = 3) : ∃ a b c, l = [a, b, c] := match l, h with | [a, b, c], _ => ⟨a, b, c, rfl⟩
theorem list4 (l : List Int) (h : l.length = 4) : ∃ a b c d, l = [a, b, c, d] := match l, h with | [a, b, c, d], _ => ⟨a, b, c, d, rfl⟩
theorem tape_of {F : Interp} {w w' : World} {n : Nat} (hB : Below n w w') (hF : F.answers w.tape) : F.answers w'.tape := by rw [hB.tape]; exact hF
theorem len_le_flat {I : List (List Int)} (h : ∀ l ∈ I, Ins l) : I.length ≤ I.flatten.length := by
  induction I with
  | nil => simp
  | cons a I ih =>
    have h1 := (h a (List.mem_cons_self ..)).len
    have h2 := ih (fun l hl => h l (List.mem_cons_of_mem _ hl))
    simp only [List.flatten_cons, List.length_append, List.length_cons]; omega

theorem slice_any (B L cap ii : Nat) (h1 : ii + 1 ≤ L) (h2 : L ≤ cap) (h3 : L ≤ 700000) : ∃ a c, ∀ w : World, (Instr.slice 22 (.slice (some ⟨B, 0, none⟩) L cap) (some (.int .i64 ((ii : Int) + 1))) none none).run Eeug.prog w = .ok (.slice (some a) (L - (ii + 1)) c) w := by
  by_cases hc : cap = ii + 1
  · refine ⟨⟨B, 0, none⟩, 0, fun w => ?_⟩
    go_simp
    intro hx
    have := hx (by omega)
    omega
  · refine ⟨⟨B, ii + 1, none⟩, cap - (ii + 1), fun w => ?_⟩
    go_simp
    intro hx
    have := hx (by omega)
    omega
theorem far {w1 w2 : World} {A A' : Obj} {v : Value} {b o : Nat} {u : Value} (hg : ((w1.alloc A).alloc A').drew.drew.grownBy w2 v.ownBlock) (hb : b < w1.heap.size) (hne : ∀ k, v.ownBlock = some k → b ≠ k)
    (h : w1.cell? ⟨b, o, none⟩ = some u) : w2.cell? ⟨b, o, none⟩ = some u := by
  have hB : Below w1.heap.size w1 ((w1.alloc A).alloc A').drew.drew := ((((Below.refl _ w1).alloc (Nat.le_refl _) _).alloc (by simp) _).drew).drew
  rw [hg.cell_far ⟨b, o, none⟩ (Nat.lt_of_lt_of_le hb hB.size) (fun e => hne b e.symm rfl), hB.cell (p := ⟨b, o, none⟩) hb]
  exact h
theorem news2e (w : World) (A : Obj) (x : Value) (t : TypeId) : ∀ j u, [x][j]? = some u → ((w.alloc A).alloc (.cells #[x] t)).drew.cell? ((⟨w.heap.size + 1, 0, none⟩ : Addr).add j) = some u := by
  intro j u hj
  have h9 := cell_one_new (w.alloc A) x t j u hj
  rw [World.size_alloc] at h9
  exact h9
theorem news2d (w : World) (A : Obj) (x : Value) (t : TypeId) : ∀ j u, [x][j]? = some u → ((w.alloc A).alloc (.cells #[x] t)).drew.drew.cell? ((⟨w.heap.size + 1, 0, none⟩ : Addr).add j) = some u := news2e w A x t
theorem own_snoc {w : World} {base n : Nat} {v : Value} {ls : List ByteArray} {x : ByteArray} (h : w.ownsRow base 9 1 v (ls.length + n) (ls.map Value.string ++ [.string x])) : w.ownsRow base 9 1 v (ls ++ [x]).length ((ls ++ [x]).map Value.string) := by
  have hn : n = 1 := by have := h.1; simp at this; omega
  subst hn
  simpa using h
theorem lines_snoc {F : Interp} {p : Int} {I1 : List (List Int)} {l : List Int} {ls : List ByteArray} {x : ByteArray} {ii : Nat} (h1 : ls = lines F p 0 I1) (h2 : ii = I1.flatten.length) (h3 : line F (IntKind.i64.wrap (p + ii)) l = x) : Hid (ls ++ [x] = lines F p 0 (I1 ++ [l])) := by
  subst h1
  show _ = _
  rw [lines_append, Nat.zero_add, ← h2]
  simp only [lines]
  rw [h3]

set_option maxRecDepth 100000 in
set_option maxHeartbeats 16000000 in
theorem fmt_some (F : Interp) (w : World) (hF : F.answers w.tape) (hT : Tab w) (hN : Names w) (B L cap : Nat) (p : Int) (I : List (List Int)) (hI : ∀ l ∈ I, Ins l) (hL : L = I.flatten.length) (hLb : L ≤ 700000) (hLc : L ≤ cap) (hB0 : B < w.heap.size)
    (hcell : ∀ j, j < L → w.cell? ⟨B, j, none⟩ = some (.int .u8 (I.flatten.getD j 0))) :
    Calls Eeug.prog 10 #[.slice (some ⟨B, 0, none⟩) L cap, .int .i64 p] w fun e w' => ∃ v, e = .returned v ∧ w'.ownsRow w.heap.size 9 1 v I.length ((lines F p 0 I).map Value.string) ∧ Below w.heap.size w w' := by
  obtain ⟨i0, hi0, hz0, hz1, hz2⟩ := info_parts info9
  have HL := hide hL
  have HI := hide hI
  have HC := hide hcell
  clear hL hI hcell
  go_enter Eeug.func10, Eeug.ntmps10
  go_wp2
  go_loopw [5, 6] (fun v i wr => ∃ (I1 I2 : List (List Int)) (ii : Nat) (ls : List ByteArray), Hid (I = I1 ++ I2) ∧ Hid (ii = I1.flatten.length) ∧ Hid (ls = lines F p 0 I1) ∧ ii ≤ L ∧ i = .int .i64 ii ∧ wr.ownsRow w.heap.size 9 1 v ls.length (ls.map Value.string) ∧ Below w.heap.size w wr)
    (fun _ i _ => L - (intOf i).toNat)
  case atStart => exact ⟨[], I, 0, [], rfl, rfl, rfl, Nat.zero_le _, rfl, World.ownsRow_nil _ _ _ _, Below.refl _ _⟩
  case round =>
    obtain ⟨I1, I2, ii, ls, HS, HP, HT, hii, rfl, hown, hB⟩ := hrel
    by_cases hlt : ii < L
    · obtain ⟨q, rest, I3, hI2, hq42, hrl, hrb⟩ := next_of (I1 := I1) (I2 := I2) (by rw [← HS.out]; exact HI.out) (by rw [← HS.out, ← HP.out, ← HL.out]; exact hlt)
      subst hI2
      obtain ⟨hop, hrest0, hend⟩ := at_pos HS.out
      rw [← HP.out] at hop hrest0 hend
      rw [← HL.out] at hend
      have hBr : B < wr.heap.size := Nat.lt_of_lt_of_le hB0 hB.size
      have hck : wr.cell? ⟨B, ii, none⟩ = some (.int .u8 q) := by
        rw [hB.cell (p := ⟨B, ii, none⟩) hB0, HC.out ii hlt, hop]
      have hrest : ∀ t, t < rest.length → wr.cell? ⟨B, ii + 1 + t, none⟩ = some (.int .u8 (rest.getD t 0)) := fun t ht => by
        rw [hB.cell (p := ⟨B, ii + 1 + t, none⟩) hB0, HC.out _ (by omega), hrest0 t ht]
      have hTr := hT.later hB
      have hNr := hN.later hB
      have hnm := hNr.2 q hq42
      have hN1 := hNr.1
      have hT1 := hTr.1
      have hcase := tab_cases hTr q hq42
      have hsz := hB.size
      have hlsl : ls.length ≤ 700000 := by
        have h1 := lines_len F p I1 0
        rw [← HT.out] at h1
        have h2 := len_le_flat (I := I1) (fun l hl => HI.out l (by rw [HS.out]; simp [hl]))
        rw [← HP.out] at h2
        omega
      have hN0 := hN.1
      clear hT hN hTr hNr hrest0 hop
      rcases hcase with ⟨ro, cp, hrow, hr⟩ | ⟨b, off, cp, hrow, hr, hb, hc0⟩ | ⟨b, off, cp, hrow, hr, hb, hc0⟩ | ⟨b, off, cp, hrow, hr, hb, hc0⟩ | ⟨b, off, cp, hrow, hr, hb, hc0, hc1⟩ | ⟨b, off, cp, hrow, hr, hb, hc0, hc1⟩
      · have hS : wsum q = 0 := by rw [wsum_of hrow]; rfl
        rw [hS] at hrl
        obtain ⟨rfl⟩ := list0 rest hrl
        have hline : line F (IntKind.i64.wrap (p + ii)) [(q : Int)] = line0 F (wrap64 (p + ii)) q := by rw [w64]; simp [line, hrow, dec, lineOf]
        have HLn := hide hline
        have hle : ii + 1 + 0 ≤ L := by simpa using hend
        clear hrest hrb hend hline hrow hS hrl
        have hlc : (ii : Int) + 1 ≤ (L : Int) := by omega
        have hli : (ii : Int) < (L : Int) := by omega
        have hlz : (0 : Int) ≤ (ii : Int) := by omega
        have hqi : (q : Int) < 42 := by omega
        have hone : ∃ a c, (∀ w : World, (Instr.slice 22 (.slice (some ⟨B, 0, none⟩) L cap) (some (.int .i64 ((ii : Int) + 1))) none none).run Eeug.prog w = .ok (.slice (some a) (L - (ii + 1)) c) w) := slice_any B L cap ii (by omega) hLc (by omega)
        obtain ⟨sa, sc, hsl⟩ := hone
        go_wp2_with fail
        refine (rd_e _ _ _ _).mono ?_
        rintro e w' ⟨rfl, rfl⟩
        have hF1 := answers_open (tape_of hB hF)
        go_wp2_with (at_builtin; go_must (refine wpList_append_lies _ rfl (.tmp 33) (.tmp 47) 30 rfl w.heap.size 9 i0 (.string ByteArray.empty) 1 16 Eeug.underlying30 hi0 hz0 hz1 hz2 rfl (by decide) u5 ls.length (ls.map Value.string) rfl (((hown.alloc _).alloc _).drew) ⟨wr.heap.size + 1, 0, none⟩ 1 1 [.string (line0 F (wrap64 (p + ii)) q)] rfl rfl (news2e wr _ _ 9) (by simp [Value.oneCell']) (by decide) (by unfold maxLen; omega) (by omega) (by simp; omega) _ rfl ?_; intro g2 cp2 w2 hown2 hgrow2 hat2 hlt2; have hB2 : Below w.heap.size w w2 := (((hB.alloc hB.size _).alloc (by simp; omega) _).drew).grown hgrow2 (by simp; omega) (fun k hk => (hown.lt k hk).1); have hown3 := own_snoc hown2; clear hown2 hat2 hlt2 hgrow2 hown))
        go_roundw
        case rel => exact ⟨I1 ++ [[(q : Int)]], I3, ii + 1, ls ++ [line0 F (wrap64 (p + ii)) q], by simp [Hid, HS.out], by simp [Hid, HP.out], lines_snoc HT.out HP.out (unhide HLn), by omega, by go_num, hown3, hB2⟩
        case measure => simp [intOf]; omega
      · have hS : wsum q = 1 := by rw [wsum_of hrow]; rfl
        rw [hS] at hrl
        obtain ⟨b0, rfl⟩ := list1 rest hrl
        have hline : line F (IntKind.i64.wrap (p + ii)) [(q : Int), b0] = line1 F (IntKind.i64.wrap (p + ii)) q b0 := by simp [line, hrow, dec, lineOf]
        have HLn := hide hline
        have hw0 : 0 ≤ b0 ∧ b0 ≤ 255 := hrb b0 (by simp)
        have hd0 := hrest 0 (by simp)
        simp only [List.getD_cons_zero] at hd0
        have hle : ii + 1 + 1 ≤ L := by simpa using hend
        clear hrest hrb hend hline hrow hS hrl
        have hcne : ¬ cap = ii + 1 := by omega
        have hlc : (ii : Int) + 1 ≤ (L : Int) := by omega
        have hli : (ii : Int) < (L : Int) := by omega
        have hlz : (0 : Int) ≤ (ii : Int) := by omega
        have hqi : (q : Int) < 42 := by omega
        go_wp2_with fail
        refine (rd_1 _ b off cp hb hc0 B (ii + 1) _ _ (by omega) hBr b0 hw0 hd0).mono ?_
        rintro e w1 ⟨g, gc, rfl, hg0, hlo, hgl, hB1⟩
        have hBB : Below w.heap.size w w1 := hB.trans (hB1.mono hB.size)
        have hF1 := answers_open (tape_of hBB hF)
        have hown1 := own_later hown hB1
        have hck1 : w1.cell? ⟨B, ii, none⟩ = some (.int .u8 q) := (hB1.cell (p := ⟨B, ii, none⟩) hBr).trans hck
        have hnm1 : w1.cell? ⟨1, q, none⟩ = some (.string (nameOf q)) := (hB1.cell (p := ⟨1, q, none⟩) hN1).trans hnm
        have hsz1 := hB1.size
        have HK := hide hown.lt
        clear hown hB1 hB hck hnm hBr hN1 hT1 hb hsz hr hc0 hd0
        go_wp2_with fail
        have hszz := hBB.size
        go_region_held3 (fun w' => w'.cell? ⟨B, ii, none⟩ = some (.int .u8 q) ∧ w'.cell? ⟨1, q, none⟩ = some (.string (nameOf q)) ∧ w'.cell? ⟨g, 0, none⟩ = some (.int .i64 b0)) (go_keep) ((refine step_append_lies _ rfl (.tmp 51) (.tmp 69) 30 rfl w.heap.size 9 i0 (.string ByteArray.empty) 1 16 Eeug.underlying30 hi0 hz0 hz1 hz2 rfl (by decide) u5 ls.length (ls.map Value.string) rfl ((((hown1.alloc _).alloc _).drew).drew) ⟨w1.heap.size + 1, 0, none⟩ 1 1 [.string (line1 F (IntKind.i64.wrap (p + ii)) q b0)] rfl rfl (news2d w1 _ _ 9) (by simp [Value.oneCell']) (by decide) (by unfold maxLen; omega) (by omega) (by simp; omega) _ rfl ?_; intro g2 cp2 w2 hown2 hgrow2 hat2 hlt2; have hB2 : Below w.heap.size w w2 := ((((hBB.alloc hBB.size _).alloc (by simp; omega) _).drew).drew).grown hgrow2 (by simp; omega) (fun k hk => (unhide HK k hk).1); have hk0 := far hgrow2 (cell_lt hck1) (fun k hk => by have := (unhide HK k hk).1; omega) hck1; have hk1 := far hgrow2 (cell_lt hnm1) (fun k hk => by have := (unhide HK k hk).1; omega) hnm1; have hk2 := far hgrow2 hgl (fun k hk => by have := (unhide HK k hk).2; omega) hg0; have hown3 := own_snoc hown2; clear hown2 hat2 hlt2 hgrow2))
        clear hk0 hk1 hk2 hown1
        go_wp2_with fail
        go_roundw
        case rel => exact ⟨I1 ++ [[(q : Int), b0]], I3, ii + 2, ls ++ [line1 F (IntKind.i64.wrap (p + ii)) q b0], by simp [Hid, HS.out], by simp [Hid, HP.out], lines_snoc HT.out HP.out (unhide HLn), by omega, by go_num, hown3, hB2⟩
        case measure => simp [intOf]; omega
      · have hS : wsum q = 2 := by rw [wsum_of hrow]; rfl
        rw [hS] at hrl
        obtain ⟨b0, b1, rfl⟩ := list2 rest hrl
        have hline : line F (IntKind.i64.wrap (p + ii)) [(q : Int), b0, b1] = line1 F (IntKind.i64.wrap (p + ii)) q (b0 * 256 + b1) := by simp [line, hrow, dec, lineOf]
        have HLn := hide hline
        have hw0 : 0 ≤ b0 ∧ b0 ≤ 255 := hrb b0 (by simp)
        have hd0 := hrest 0 (by simp)
        have hw1 : 0 ≤ b1 ∧ b1 ≤ 255 := hrb b1 (by simp)
        have hd1 := hrest 1 (by simp)
        simp only [List.getD_cons_zero, List.getD_cons_succ] at hd0 hd1
        have hle : ii + 1 + 2 ≤ L := by simpa using hend
        clear hrest hrb hend hline hrow hS hrl
        have hcne : ¬ cap = ii + 1 := by omega
        have hlc : (ii : Int) + 1 ≤ (L : Int) := by omega
        have hli : (ii : Int) < (L : Int) := by omega
        have hlz : (0 : Int) ≤ (ii : Int) := by omega
        have hqi : (q : Int) < 42 := by omega
        go_wp2_with fail
        refine (rd_2 _ b off cp hb hc0 B (ii + 1) _ _ (by omega) hBr b0 b1 hw0 hw1 hd0 hd1).mono ?_
        rintro e w1 ⟨g, gc, rfl, hg0, hlo, hgl, hB1⟩
        have hBB : Below w.heap.size w w1 := hB.trans (hB1.mono hB.size)
        have hF1 := answers_open (tape_of hBB hF)
        have hown1 := own_later hown hB1
        have hck1 : w1.cell? ⟨B, ii, none⟩ = some (.int .u8 q) := (hB1.cell (p := ⟨B, ii, none⟩) hBr).trans hck
        have hnm1 : w1.cell? ⟨1, q, none⟩ = some (.string (nameOf q)) := (hB1.cell (p := ⟨1, q, none⟩) hN1).trans hnm
        have hsz1 := hB1.size
        have HK := hide hown.lt
        clear hown hB1 hB hck hnm hBr hN1 hT1 hb hsz hr hc0 hd0 hd1
        go_wp2_with fail
        have hszz := hBB.size
        go_region_held3 (fun w' => w'.cell? ⟨B, ii, none⟩ = some (.int .u8 q) ∧ w'.cell? ⟨1, q, none⟩ = some (.string (nameOf q)) ∧ w'.cell? ⟨g, 0, none⟩ = some (.int .i64 (b0 * 256 + b1))) (go_keep) ((refine step_append_lies _ rfl (.tmp 51) (.tmp 69) 30 rfl w.heap.size 9 i0 (.string ByteArray.empty) 1 16 Eeug.underlying30 hi0 hz0 hz1 hz2 rfl (by decide) u5 ls.length (ls.map Value.string) rfl ((((hown1.alloc _).alloc _).drew).drew) ⟨w1.heap.size + 1, 0, none⟩ 1 1 [.string (line1 F (IntKind.i64.wrap (p + ii)) q (b0 * 256 + b1))] rfl rfl (news2d w1 _ _ 9) (by simp [Value.oneCell']) (by decide) (by unfold maxLen; omega) (by omega) (by simp; omega) _ rfl ?_; intro g2 cp2 w2 hown2 hgrow2 hat2 hlt2; have hB2 : Below w.heap.size w w2 := ((((hBB.alloc hBB.size _).alloc (by simp; omega) _).drew).drew).grown hgrow2 (by simp; omega) (fun k hk => (unhide HK k hk).1); have hk0 := far hgrow2 (cell_lt hck1) (fun k hk => by have := (unhide HK k hk).1; omega) hck1; have hk1 := far hgrow2 (cell_lt hnm1) (fun k hk => by have := (unhide HK k hk).1; omega) hnm1; have hk2 := far hgrow2 hgl (fun k hk => by have := (unhide HK k hk).2; omega) hg0; have hown3 := own_snoc hown2; clear hown2 hat2 hlt2 hgrow2))
        clear hk0 hk1 hk2 hown1
        go_wp2_with fail
        go_roundw
        case rel => exact ⟨I1 ++ [[(q : Int), b0, b1]], I3, ii + 3, ls ++ [line1 F (IntKind.i64.wrap (p + ii)) q (b0 * 256 + b1)], by simp [Hid, HS.out], by simp [Hid, HP.out], lines_snoc HT.out HP.out (unhide HLn), by omega, by go_num, hown3, hB2⟩
        case measure => simp [intOf]; omega
      · have hS : wsum q = 4 := by rw [wsum_of hrow]; rfl
        rw [hS] at hrl
        obtain ⟨b0, b1, b2, b3, rfl⟩ := list4 rest hrl
        have hline : line F (IntKind.i64.wrap (p + ii)) [(q : Int), b0, b1, b2, b3] = line1 F (IntKind.i64.wrap (p + ii)) q (b0 * 16777216 + (b1 * 65536 + (b2 * 256 + b3))) := by simp [line, hrow, dec, lineOf]
        have HLn := hide hline
        have hw0 : 0 ≤ b0 ∧ b0 ≤ 255 := hrb b0 (by simp)
        have hd0 := hrest 0 (by simp)
        have hw1 : 0 ≤ b1 ∧ b1 ≤ 255 := hrb b1 (by simp)
        have hd1 := hrest 1 (by simp)
        have hw2 : 0 ≤ b2 ∧ b2 ≤ 255 := hrb b2 (by simp)
        have hd2 := hrest 2 (by simp)
        have hw3 : 0 ≤ b3 ∧ b3 ≤ 255 := hrb b3 (by simp)
        have hd3 := hrest 3 (by simp)
        simp only [List.getD_cons_zero, List.getD_cons_succ] at hd0 hd1 hd2 hd3
        have hle : ii + 1 + 4 ≤ L := by simpa using hend
        clear hrest hrb hend hline hrow hS hrl
        have hcne : ¬ cap = ii + 1 := by omega
        have hlc : (ii : Int) + 1 ≤ (L : Int) := by omega
        have hli : (ii : Int) < (L : Int) := by omega
        have hlz : (0 : Int) ≤ (ii : Int) := by omega
        have hqi : (q : Int) < 42 := by omega
        go_wp2_with fail
        refine (rd_4 _ b off cp hb hc0 B (ii + 1) _ _ (by omega) hBr b0 b1 b2 b3 hw0 hw1 hw2 hw3 hd0 hd1 hd2 hd3).mono ?_
        rintro e w1 ⟨g, gc, rfl, hg0, hlo, hgl, hB1⟩
        have hBB : Below w.heap.size w w1 := hB.trans (hB1.mono hB.size)
        have hF1 := answers_open (tape_of hBB hF)
        have hown1 := own_later hown hB1
        have hck1 : w1.cell? ⟨B, ii, none⟩ = some (.int .u8 q) := (hB1.cell (p := ⟨B, ii, none⟩) hBr).trans hck
        have hnm1 : w1.cell? ⟨1, q, none⟩ = some (.string (nameOf q)) := (hB1.cell (p := ⟨1, q, none⟩) hN1).trans hnm
        have hsz1 := hB1.size
        have HK := hide hown.lt
        clear hown hB1 hB hck hnm hBr hN1 hT1 hb hsz hr hc0 hd0 hd1 hd2 hd3
        go_wp2_with fail
        have hszz := hBB.size
        go_region_held3 (fun w' => w'.cell? ⟨B, ii, none⟩ = some (.int .u8 q) ∧ w'.cell? ⟨1, q, none⟩ = some (.string (nameOf q)) ∧ w'.cell? ⟨g, 0, none⟩ = some (.int .i64 (b0 * 16777216 + (b1 * 65536 + (b2 * 256 + b3))))) (go_keep) ((refine step_append_lies _ rfl (.tmp 51) (.tmp 69) 30 rfl w.heap.size 9 i0 (.string ByteArray.empty) 1 16 Eeug.underlying30 hi0 hz0 hz1 hz2 rfl (by decide) u5 ls.length (ls.map Value.string) rfl ((((hown1.alloc _).alloc _).drew).drew) ⟨w1.heap.size + 1, 0, none⟩ 1 1 [.string (line1 F (IntKind.i64.wrap (p + ii)) q (b0 * 16777216 + (b1 * 65536 + (b2 * 256 + b3))))] rfl rfl (news2d w1 _ _ 9) (by simp [Value.oneCell']) (by decide) (by unfold maxLen; omega) (by omega) (by simp; omega) _ rfl ?_; intro g2 cp2 w2 hown2 hgrow2 hat2 hlt2; have hB2 : Below w.heap.size w w2 := ((((hBB.alloc hBB.size _).alloc (by simp; omega) _).drew).drew).grown hgrow2 (by simp; omega) (fun k hk => (unhide HK k hk).1); have hk0 := far hgrow2 (cell_lt hck1) (fun k hk => by have := (unhide HK k hk).1; omega) hck1; have hk1 := far hgrow2 (cell_lt hnm1) (fun k hk => by have := (unhide HK k hk).1; omega) hnm1; have hk2 := far hgrow2 hgl (fun k hk => by have := (unhide HK k hk).2; omega) hg0; have hown3 := own_snoc hown2; clear hown2 hat2 hlt2 hgrow2))
        clear hk0 hk1 hk2 hown1
        go_wp2_with fail
        go_roundw
        case rel => exact ⟨I1 ++ [[(q : Int), b0, b1, b2, b3]], I3, ii + 5, ls ++ [line1 F (IntKind.i64.wrap (p + ii)) q (b0 * 16777216 + (b1 * 65536 + (b2 * 256 + b3)))], by simp [Hid, HS.out], by simp [Hid, HP.out], lines_snoc HT.out HP.out (unhide HLn), by omega, by go_num, hown3, hB2⟩
        case measure => simp [intOf]; omega
      · have hS : wsum q = 2 := by rw [wsum_of hrow]; rfl
        rw [hS] at hrl
        obtain ⟨b0, b1, rfl⟩ := list2 rest hrl
        have hline : line F (IntKind.i64.wrap (p + ii)) [(q : Int), b0, b1] = line2 F (IntKind.i64.wrap (p + ii)) q b0 b1 := by simp [line, hrow, dec, lineOf]
        have HLn := hide hline
        have hw0 : 0 ≤ b0 ∧ b0 ≤ 255 := hrb b0 (by simp)
        have hd0 := hrest 0 (by simp)
        have hw1 : 0 ≤ b1 ∧ b1 ≤ 255 := hrb b1 (by simp)
        have hd1 := hrest 1 (by simp)
        simp only [List.getD_cons_zero, List.getD_cons_succ] at hd0 hd1
        have hle : ii + 1 + 2 ≤ L := by simpa using hend
        clear hrest hrb hend hline hrow hS hrl
        have hcne : ¬ cap = ii + 1 := by omega
        have hlc : (ii : Int) + 1 ≤ (L : Int) := by omega
        have hli : (ii : Int) < (L : Int) := by omega
        have hlz : (0 : Int) ≤ (ii : Int) := by omega
        have hqi : (q : Int) < 42 := by omega
        go_wp2_with fail
        refine (rd_11 _ b off cp hb hc0 hc1 B (ii + 1) _ _ (by omega) hBr b0 b1 hw0 hw1 hd0 hd1).mono ?_
        rintro e w1 ⟨g, gc, rfl, hg0, hg1, hlo, hgl, hB1⟩
        have hBB : Below w.heap.size w w1 := hB.trans (hB1.mono hB.size)
        have hF1 := answers_open (tape_of hBB hF)
        have hown1 := own_later hown hB1
        have hck1 : w1.cell? ⟨B, ii, none⟩ = some (.int .u8 q) := (hB1.cell (p := ⟨B, ii, none⟩) hBr).trans hck
        have hnm1 : w1.cell? ⟨1, q, none⟩ = some (.string (nameOf q)) := (hB1.cell (p := ⟨1, q, none⟩) hN1).trans hnm
        have hsz1 := hB1.size
        have HK := hide hown.lt
        clear hown hB1 hB hck hnm hBr hN1 hT1 hb hsz hr hc0 hc1 hd0 hd1
        go_wp2_with fail
        have hszz := hBB.size
        go_region_held3 (fun w' => w'.cell? ⟨B, ii, none⟩ = some (.int .u8 q) ∧ w'.cell? ⟨1, q, none⟩ = some (.string (nameOf q)) ∧ w'.cell? ⟨g, 0, none⟩ = some (.int .i64 b0) ∧ w'.cell? ⟨g, 1, none⟩ = some (.int .i64 b1)) (go_keep) ((refine step_append_lies _ rfl (.tmp 73) (.tmp 95) 30 rfl w.heap.size 9 i0 (.string ByteArray.empty) 1 16 Eeug.underlying30 hi0 hz0 hz1 hz2 rfl (by decide) u5 ls.length (ls.map Value.string) rfl ((((hown1.alloc _).alloc _).drew).drew) ⟨w1.heap.size + 1, 0, none⟩ 1 1 [.string (line2 F (IntKind.i64.wrap (p + ii)) q b0 b1)] rfl rfl (news2d w1 _ _ 9) (by simp [Value.oneCell']) (by decide) (by unfold maxLen; omega) (by omega) (by simp; omega) _ rfl ?_; intro g2 cp2 w2 hown2 hgrow2 hat2 hlt2; have hB2 : Below w.heap.size w w2 := ((((hBB.alloc hBB.size _).alloc (by simp; omega) _).drew).drew).grown hgrow2 (by simp; omega) (fun k hk => (unhide HK k hk).1); have hk0 := far hgrow2 (cell_lt hck1) (fun k hk => by have := (unhide HK k hk).1; omega) hck1; have hk1 := far hgrow2 (cell_lt hnm1) (fun k hk => by have := (unhide HK k hk).1; omega) hnm1; have hk2 := far hgrow2 hgl (fun k hk => by have := (unhide HK k hk).2; omega) hg0; have hk3 := far hgrow2 hgl (fun k hk => by have := (unhide HK k hk).2; omega) hg1; have hown3 := own_snoc hown2; clear hown2 hat2 hlt2 hgrow2))
        clear hk0 hk1 hk2 hk3 hown1
        go_wp2_with fail
        go_roundw
        case rel => exact ⟨I1 ++ [[(q : Int), b0, b1]], I3, ii + 3, ls ++ [line2 F (IntKind.i64.wrap (p + ii)) q b0 b1], by simp [Hid, HS.out], by simp [Hid, HP.out], lines_snoc HT.out HP.out (unhide HLn), by omega, by go_num, hown3, hB2⟩
        case measure => simp [intOf]; omega
      · have hS : wsum q = 3 := by rw [wsum_of hrow]; rfl
        rw [hS] at hrl
        obtain ⟨b0, b1, b2, rfl⟩ := list3 rest hrl
        have hline : line F (IntKind.i64.wrap (p + ii)) [(q : Int), b0, b1, b2] = line2 F (IntKind.i64.wrap (p + ii)) q (b0 * 256 + b1) b2 := by simp [line, hrow, dec, lineOf]
        have HLn := hide hline
        have hw0 : 0 ≤ b0 ∧ b0 ≤ 255 := hrb b0 (by simp)
        have hd0 := hrest 0 (by simp)
        have hw1 : 0 ≤ b1 ∧ b1 ≤ 255 := hrb b1 (by simp)
        have hd1 := hrest 1 (by simp)
        have hw2 : 0 ≤ b2 ∧ b2 ≤ 255 := hrb b2 (by simp)
        have hd2 := hrest 2 (by simp)
        simp only [List.getD_cons_zero, List.getD_cons_succ] at hd0 hd1 hd2
        have hle : ii + 1 + 3 ≤ L := by simpa using hend
        clear hrest hrb hend hline hrow hS hrl
        have hcne : ¬ cap = ii + 1 := by omega
        have hlc : (ii : Int) + 1 ≤ (L : Int) := by omega
        have hli : (ii : Int) < (L : Int) := by omega
        have hlz : (0 : Int) ≤ (ii : Int) := by omega
        have hqi : (q : Int) < 42 := by omega
        go_wp2_with fail
        refine (rd_21 _ b off cp hb hc0 hc1 B (ii + 1) _ _ (by omega) hBr b0 b1 b2 hw0 hw1 hw2 hd0 hd1 hd2).mono ?_
        rintro e w1 ⟨g, gc, rfl, hg0, hg1, hlo, hgl, hB1⟩
        have hBB : Below w.heap.size w w1 := hB.trans (hB1.mono hB.size)
        have hF1 := answers_open (tape_of hBB hF)
        have hown1 := own_later hown hB1
        have hck1 : w1.cell? ⟨B, ii, none⟩ = some (.int .u8 q) := (hB1.cell (p := ⟨B, ii, none⟩) hBr).trans hck
        have hnm1 : w1.cell? ⟨1, q, none⟩ = some (.string (nameOf q)) := (hB1.cell (p := ⟨1, q, none⟩) hN1).trans hnm
        have hsz1 := hB1.size
        have HK := hide hown.lt
        clear hown hB1 hB hck hnm hBr hN1 hT1 hb hsz hr hc0 hc1 hd0 hd1 hd2
        go_wp2_with fail
        have hszz := hBB.size
        go_region_held3 (fun w' => w'.cell? ⟨B, ii, none⟩ = some (.int .u8 q) ∧ w'.cell? ⟨1, q, none⟩ = some (.string (nameOf q)) ∧ w'.cell? ⟨g, 0, none⟩ = some (.int .i64 (b0 * 256 + b1)) ∧ w'.cell? ⟨g, 1, none⟩ = some (.int .i64 b2)) (go_keep) ((refine step_append_lies _ rfl (.tmp 73) (.tmp 95) 30 rfl w.heap.size 9 i0 (.string ByteArray.empty) 1 16 Eeug.underlying30 hi0 hz0 hz1 hz2 rfl (by decide) u5 ls.length (ls.map Value.string) rfl ((((hown1.alloc _).alloc _).drew).drew) ⟨w1.heap.size + 1, 0, none⟩ 1 1 [.string (line2 F (IntKind.i64.wrap (p + ii)) q (b0 * 256 + b1) b2)] rfl rfl (news2d w1 _ _ 9) (by simp [Value.oneCell']) (by decide) (by unfold maxLen; omega) (by omega) (by simp; omega) _ rfl ?_; intro g2 cp2 w2 hown2 hgrow2 hat2 hlt2; have hB2 : Below w.heap.size w w2 := ((((hBB.alloc hBB.size _).alloc (by simp; omega) _).drew).drew).grown hgrow2 (by simp; omega) (fun k hk => (unhide HK k hk).1); have hk0 := far hgrow2 (cell_lt hck1) (fun k hk => by have := (unhide HK k hk).1; omega) hck1; have hk1 := far hgrow2 (cell_lt hnm1) (fun k hk => by have := (unhide HK k hk).1; omega) hnm1; have hk2 := far hgrow2 hgl (fun k hk => by have := (unhide HK k hk).2; omega) hg0; have hk3 := far hgrow2 hgl (fun k hk => by have := (unhide HK k hk).2; omega) hg1; have hown3 := own_snoc hown2; clear hown2 hat2 hlt2 hgrow2))
        clear hk0 hk1 hk2 hk3 hown1
        go_wp2_with fail
        go_roundw
        case rel => exact ⟨I1 ++ [[(q : Int), b0, b1, b2]], I3, ii + 4, ls ++ [line2 F (IntKind.i64.wrap (p + ii)) q (b0 * 256 + b1) b2], by simp [Hid, HS.out], by simp [Hid, HP.out], lines_snoc HT.out HP.out (unhide HLn), by omega, by go_num, hown3, hB2⟩
        case measure => simp [intOf]; omega
    · obtain rfl : I2 = [] := end_of (I1 := I1) (by rw [← HS.out]; exact HI.out) (by rw [← HS.out, ← HP.out, ← HL.out]; omega)
      have HO := hide hown
      clear hown hT hN
      go_wp2
      go_ret
      refine ⟨u5, rfl, ?_, hB⟩
      have e : I1 = I := by have := HS.out; simpa using this.symm
      have h := unhide HO
      rw [HT.out, lines_len, e] at h
      exact h

set_option maxHeartbeats 400000 in
theorem fmt_nil (w : World) (p : Int) : Calls Eeug.prog 10 #[.slice none 0 0, .int .i64 p] w fun e w' => e = .returned (.slice none 0 0) ∧ w = w' := by
  go_enter Eeug.func10, Eeug.ntmps10
  go_wp2_with fail
  refine wp_loop_rounds 1 ?_
  rw [rounds_succ]
  go_wp2_with fail
  go_ret
  exact ⟨rfl, rfl⟩

/-- FormatInstructions on a code that the call itself laid (or nil). -/
theorem fmt_any (F : Interp) (w : World) (hF : F.answers w.tape) (hT : Tab w) (hN : Names w) (base : Nat) (v : Value) (p : Int) (I : List (List Int)) (hI : ∀ l ∈ I, Ins l) (hIl : I.length ≤ 140000)
    (hown : w.ownsRow base 5 1 v I.flatten.length (I.flatten.map (Value.int .u8))) :
    Calls Eeug.prog 10 #[v, .int .i64 p] w fun e w' => ∃ v', e = .returned v' ∧ w'.ownsRow w.heap.size 9 1 v' I.length ((lines F p 0 I).map Value.string) ∧ Below w.heap.size w w' := by
  have hfl := flat_len hI
  rcases hown.2 with ⟨rfl, h0⟩ | ⟨g, cap, cur, rfl, hb, hg, hnc, _⟩
  · have hI0 : I = [] := by
      have := len_le_flat hI
      exact List.eq_nil_of_length_eq_zero (by omega)
    subst hI0
    refine (fmt_nil w p).mono ?_
    rintro e w' ⟨rfl, rfl⟩
    exact ⟨_, rfl, World.ownsRow_nil _ _ _ _, Below.refl _ _⟩
  · have hgl : g < w.heap.size := by
      rcases Nat.lt_or_ge g w.heap.size with h | h
      · exact h
      · rw [Array.getElem?_eq_none h] at hg; cases hg
    refine fmt_some F w hF hT hN g I.flatten.length cap p I hI rfl (by omega) hnc hgl (fun j hj => ?_)
    rw [hown.cellAt j (by omega), List.getElem?_map, List.getD_eq_getElem?_getD, List.getElem?_eq_getElem hj]; rfl

end Go.Proofs.YoeeuwFmt

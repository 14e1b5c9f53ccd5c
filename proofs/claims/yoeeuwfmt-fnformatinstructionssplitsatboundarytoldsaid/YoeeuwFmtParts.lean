/-
  OUR OWN. The contracts of the clones, of zzAssemble and of FormatInstructions in one form each: nil or not, empty or not.
-/
import Derived.Test.YoeeuwFmtAsm
import Derived.Test.YoeeuwFmtListing
namespace Go.Proofs.YoeeuwFmt
open Go.RowKit Go.Extern.Stop Go.Stop Go.Extern

/-- The slice '.slice ao n cap' holds the integers zs (of kind k). -/
def SliceOf (k : IntKind) (w : World) (ao : Option Addr) (n cap : Nat) (zs : List Int) : Prop :=
  zs.length = n ∧ (ao = none → n = 0 ∧ cap = 0) ∧ (n ≠ 0 → ∃ B o, ao = some ⟨B, o, none⟩ ∧ B < w.heap.size ∧ ∀ j, j < n → w.cell? ⟨B, o + j, none⟩ = some (.int k (zs.getD j 0)))

theorem SliceOf.later {k : IntKind} {w w' : World} {ao : Option Addr} {n cap : Nat} {zs : List Int} (h : SliceOf k w ao n cap zs) (hB : Below w.heap.size w w') : SliceOf k w' ao n cap zs := by
  obtain ⟨h1, h2, h3⟩ := h
  refine ⟨h1, h2, fun hn => ?_⟩
  obtain ⟨B, o, rfl, hb, hc⟩ := h3 hn
  exact ⟨B, o, rfl, Nat.lt_of_lt_of_le hb hB.size, fun j hj => (hB.cell (p := ⟨B, o + j, none⟩) hb).trans (hc j hj)⟩
theorem SliceOf.of_own {k : IntKind} {w : World} {base : Nat} {e : TypeId} {g n : Nat} {zs : List Int} (hz : zs.length = n) (h : w.ownsRow base e 1 (.slice (some ⟨g, 0, none⟩) n n) n (zs.map (Value.int k))) (hg : g < w.heap.size) : SliceOf k w (some ⟨g, 0, none⟩) n n zs := by
  refine ⟨hz, (fun h => by cases h), fun _ => ⟨g, 0, rfl, hg, fun j hj => ?_⟩⟩
  rw [Nat.zero_add, h.cellAt j (by omega), List.getElem?_map, List.getD_eq_getElem?_getD, List.getElem?_eq_getElem (by omega)]; rfl
theorem own_block_lt {w : World} {base : Nat} {e : TypeId} {g n cap size : Nat} {xs : List Value} (h : w.ownsRow base e size (.slice (some ⟨g, 0, none⟩) n cap) n xs) : g < w.heap.size := (h.lt g rfl).2

theorem clone7_any (w : World) (ao : Option Addr) (n cap : Nat) (zs : List Int) (hn : n ≤ 65536) (h : SliceOf .u8 w ao n cap zs) :
    Calls Eeug.prog 7 #[.slice ao n cap] w fun e w' => ∃ ao' cap', e = .returned (.slice ao' n cap') ∧ SliceOf .u8 w' ao' n cap' zs ∧ Below w.heap.size w w' := by
  cases ao with
  | none =>
    obtain ⟨rfl, rfl⟩ := h.2.1 rfl
    refine (clone7_nil w).mono ?_
    rintro e w' ⟨rfl, rfl⟩
    exact ⟨none, 0, rfl, h, Below.refl _ _⟩
  | some a =>
    refine (clone7 w a n cap zs h.1 hn (fun h0 => ?_)).mono ?_
    · obtain ⟨B, o, ha, r⟩ := h.2.2 h0
      exact ⟨B, o, Option.some.inj ha, r⟩
    · rintro e w' ⟨rfl, hown, hB⟩
      exact ⟨_, _, rfl, SliceOf.of_own h.1 hown (own_block_lt hown), hB⟩
theorem clone8_any (w : World) (ao : Option Addr) (n cap : Nat) (zs : List Int) (hn : n ≤ 65536) (h : SliceOf .i64 w ao n cap zs) :
    Calls Eeug.prog 8 #[.slice ao n cap] w fun e w' => ∃ ao' cap', e = .returned (.slice ao' n cap') ∧ SliceOf .i64 w' ao' n cap' zs ∧ Below w.heap.size w w' := by
  cases ao with
  | none =>
    obtain ⟨rfl, rfl⟩ := h.2.1 rfl
    refine (clone8_nil w).mono ?_
    rintro e w' ⟨rfl, rfl⟩
    exact ⟨none, 0, rfl, h, Below.refl _ _⟩
  | some a =>
    refine (clone8 w a n cap zs h.1 hn (fun h0 => ?_)).mono ?_
    · obtain ⟨B, o, ha, r⟩ := h.2.2 h0
      exact ⟨B, o, Option.some.inj ha, r⟩
    · rintro e w' ⟨rfl, hown, hB⟩
      exact ⟨_, _, rfl, SliceOf.of_own h.1 hown (own_block_lt hown), hB⟩

/-- What zzAssemble leaves: the slice '.slice ao L cap' is the code of the whole instructions I, n of them. -/
def Code (w' : World) (base n : Nat) (ao : Option Addr) (L cap : Nat) (I : List (List Int)) : Prop := I.length = n ∧ (∀ l ∈ I, Ins l) ∧ I.flatten.length = L ∧ (ao = none → L = 0 ∧ cap = 0) ∧ w'.ownsRow base 5 1 (.slice ao L cap) L (I.flatten.map (Value.int .u8))
theorem Code.later {w w' : World} {base n : Nat} {ao : Option Addr} {L cap : Nat} {I : List (List Int)} (h : Code w base n ao L cap I) (hB : Below w.heap.size w w') : Code w' base n ao L cap I := ⟨h.1, h.2.1, h.2.2.1, h.2.2.2.1, own_later h.2.2.2.2 hB⟩
theorem Code.of_own {w : World} {base n : Nat} {v : Value} {I : List (List Int)} (hl : I.length = n) (hI : ∀ l ∈ I, Ins l) (h : w.ownsRow base 5 1 v I.flatten.length (I.flatten.map (Value.int .u8))) : ∃ ao L cap, v = .slice ao L cap ∧ Code w base n ao L cap I := by
  rcases h.2 with ⟨rfl, h0⟩ | ⟨g, cap, cur, rfl, _⟩
  · exact ⟨none, 0, 0, rfl, hl, hI, h0, fun _ => ⟨rfl, rfl⟩, by rw [h0] at h; exact h⟩
  · exact ⟨_, _, cap, rfl, hl, hI, rfl, (fun h => by cases h), h⟩
theorem Code.len {w : World} {base n : Nat} {ao : Option Addr} {L cap : Nat} {I : List (List Int)} (h : Code w base n ao L cap I) : L ≤ 5 * n := by
  have := flat_len h.2.1
  rw [h.2.2.1, h.1] at this
  exact this

theorem asm_any (w : World) (hT : Tab w) (oo : Option Addr) (no ocap : Nat) (ao : Option Addr) (la acap : Nat) (os az : List Int) (nx0 : Nat) (hno : no ≤ 65536) (hla : la ≤ 65536) (hnx0 : nx0 ≤ 1000000)
    (ho : SliceOf .u8 w oo no ocap os) (hob : ∀ z ∈ os, 0 ≤ z ∧ z ≤ 255) (ha : SliceOf .i64 w ao la acap az) :
    Calls Eeug.prog 9 #[.slice oo no ocap, .slice ao la acap, .int .i64 nx0] w fun e w' => ∃ (I : List (List Int)) (nx : Nat) (co : Option Addr) (L cap : Nat), e = .returned (.tuple #[.slice co L cap, .int .i64 nx]) ∧
      nx ≤ nx0 + 2 * no ∧ Code w' w.heap.size no co L cap I ∧ Below w.heap.size w w' := by
  by_cases h0 : no = 0
  · subst h0
    refine (asm_e w oo ocap _ nx0).mono ?_
    rintro e w' ⟨rfl, rfl⟩
    exact ⟨[], nx0, none, 0, 0, rfl, by omega, ⟨rfl, (fun l hl => by cases hl), rfl, (fun _ => ⟨rfl, rfl⟩), World.ownsRow_nil _ _ _ _⟩, Below.refl _ _⟩
  · obtain ⟨OB, o, rfl, hOB, hos⟩ := ho.2.2 h0
    have hb : ∀ j, j < no → 0 ≤ os.getD j 0 ∧ os.getD j 0 ≤ 255 := fun j hj => by
      have hj' : j < os.length := by rw [ho.1]; exact hj
      rw [List.getD_eq_getElem?_getD, List.getElem?_eq_getElem hj']
      exact hob _ (List.getElem_mem _)
    by_cases h1 : la = 0
    · subst h1
      refine (asm0 w hT OB o no ocap ao acap nx0 os hno hOB hos hb).mono ?_
      rintro e w' ⟨I, nx, v, rfl, hl, hI, hn, hown, hB⟩
      obtain ⟨co, L, cap, rfl, hC⟩ := Code.of_own hl hI hown
      exact ⟨I, nx, co, L, cap, rfl, hn, hC, hB⟩
    · obtain ⟨AB, ap, rfl, hAB, has⟩ := ha.2.2 h1
      refine (asm w hT OB o no ocap AB ap la acap nx0 os az hno hla hnx0 (by omega) hOB hAB hos hb has).mono ?_
      rintro e w' ⟨I, nx, v, rfl, hl, hI, hn, hown, hB⟩
      obtain ⟨co, L, cap, rfl, hC⟩ := Code.of_own hl hI hown
      exact ⟨I, nx, co, L, cap, rfl, hn, hC, hB⟩

/-- A slice of the strings ls. -/
def Lines (w : World) (base : Nat) (ao : Option Addr) (n cap : Nat) (ls : List ByteArray) : Prop := w.ownsRow base 9 1 (.slice ao n cap) n (ls.map Value.string)
theorem Lines.later {w w' : World} {base : Nat} {ao : Option Addr} {n cap : Nat} {ls : List ByteArray} (h : Lines w base ao n cap ls) (hB : Below w.heap.size w w') : Lines w' base ao n cap ls := own_later h hB
theorem list_any (F : Interp) (w : World) (hF : F.answers w.tape) (hT : Tab w) (hN : Names w) (base n : Nat) (co : Option Addr) (L cap : Nat) (p : Int) (I : List (List Int)) (hn : n ≤ 140000) (h : Code w base n co L cap I) :
    Calls Eeug.prog 10 #[.slice co L cap, .int .i64 p] w fun e w' => ∃ ao cap, e = .returned (.slice ao n cap) ∧ Lines w' w.heap.size ao n cap (lines F p 0 I) ∧ Below w.heap.size w w' := by
  obtain ⟨rfl, hI, rfl, _, hown⟩ := h
  refine (fmt_any F w hF hT hN base _ p I hI hn hown).mono ?_
  rintro e w' ⟨v', rfl, hown', hB⟩
  rcases hown'.2 with ⟨rfl, h0⟩ | ⟨g, cap, cur, rfl, _⟩
  · exact ⟨none, 0, by rw [h0], by unfold Lines; rw [h0] at hown' ⊢; exact hown', hB⟩
  · exact ⟨_, cap, rfl, hown', hB⟩
end Go.Proofs.YoeeuwFmt

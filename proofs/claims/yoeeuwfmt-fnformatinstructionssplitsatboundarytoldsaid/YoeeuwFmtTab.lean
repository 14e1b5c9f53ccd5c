/-
  OUR OWN. What the laid table OpcodeOperands (and OpcodeNames) gives the walks: each row's slice and its cells; the named variables read again behind a call that wrote nothing old. By program (wip/gen/gen_tab.py).
-/
import Derived.Test.YoeeuwFmtRows
import Derived.ProofKit
import Derived.LaidMore
import Derived.OpenShut
import Derived.Stop.Joined
import Derived.WalkKit
import Derived.WalkSmall
namespace Go.Proofs.YoeeuwFmt
open Go.ChangeShapes Go.WideShapes Go.ChangeAt Go.WideMaps Go.WideElems Go.RowKit

def opRows : List (List Int) := [[2], [], [], [], [], [], [], [], [], [4], [4], [4], [4], [], [2], [2], [], [], [], [], [1, 1], [1], [2], [2], [2, 1], [1], [1], [1], [1, 1], [1], [1], [1], [1], [1, 1], [1], [2, 1], [], [], [], [], [1], []]
def rowData {H : Type} (l : List Int) : DataW H := .slice (lits .i64 l) []
theorem laid_ops : (Rows.laid_github_com_d5_tengo_v2_parser_OpcodeOperands : DataW Unit) = .agg (opRows.map rowData) := rfl

/-- Row i of the table: a slice of the widths l, its cells below the heap's end. -/
def TabRow (W : World) (i : Nat) (l : List Int) : Prop := ∃ (ao : Option Addr) (cap : Nat), W.cell? ⟨0, i, none⟩ = some (.slice ao l.length cap) ∧
  (l ≠ [] → ∃ b off, ao = some ⟨b, off, none⟩ ∧ b < W.heap.size ∧ ∀ j, j < l.length → W.cell? ⟨b, off + j, none⟩ = some (.int .i64 (l.getD j 0)))
def Tab (W : World) : Prop := 0 < W.heap.size ∧ ∀ i l, opRows[i]? = some l → TabRow W i l

theorem cells3 : Eeug.prog.cellsOf 3 = 1 := by kernel_rfl
theorem cells23 : Eeug.prog.cellsOf 23 = 1 := by kernel_rfl
/-- The table's name, off the given row. -/
def opsVar : String := Rows.fnFormatInstructionsOneLinePerInstructionSpec.vars.getD 0 ""
theorem gOps : Eeug.prog.globalNamed opsVar = some 0 := by kernel_rfl
theorem tOps : (Eeug.prog.globals[0]?).map (·.type) = some 33 := by kernel_rfl
theorem laidOut : laidOutB Eeug.prog = true := by kernel_rfl

theorem cell_lt {W : World} {b o : Nat} {v : Value} (h : W.cell? ⟨b, o, none⟩ = some v) : b < W.heap.size := by
  rcases Nat.lt_or_ge b W.heap.size with hh | hh
  · exact hh
  · simp [World.cell?, Array.getElem?_eq_none hh] at h

theorem lits_inj {H : Type} {k : IntKind} {a b : List Int} (h : (lits k a : List (DataW H)) = lits k b) : a = b := by
  unfold lits at h
  exact (List.map_inj_right (fun x y e => by simpa using e)).1 h

/-- From the reading of the array to its rows. -/
theorem tab_of_trod {W : World} {fuel : Nat} {cs : Array Value} {p : List MemPlace} {sp : Nat → Bool}
    (hv : W.var? Eeug.prog opsVar = some cs)
    (hd : DataW.trod (fun _ => ()) Eeug.prog W 0 sp false fuel 33 cs.toList = some (.agg (opRows.map rowData), p)) : Tab W := by
  obtain ⟨xs, m, rfl, hx, hlen, hn, hel⟩ := DataW.trod_array Eeug.underlying33 hd
  simp only [Prod.mk.injEq, DataW.agg.injEq] at hx
  have hrow : ∀ i l, opRows[i]? = some l → TabRow W i l := by
    intro i l hl
    have hi : i < 42 := by
      have := (List.getElem?_eq_some_iff.1 hl).1
      simpa [opRows] using this
    have h1 := hel i hi
    have h2 : (xs.map (·.1))[i]? = some (rowData l) := by rw [← hx.1, List.getElem?_map, hl]; rfl
    rw [List.getElem?_map] at h2
    obtain ⟨x, hxi, hxd⟩ := Option.map_eq_some_iff.1 h2
    rw [hxi, cells23, Nat.mul_one] at h1
    rcases open_ints Eeug.underlying23 Eeug.underlying3 cells3 h1 with ⟨_, hz⟩ | ⟨a, len, cap, zs, hcs, _, hlc, _, hzl, hz, hcell, _⟩
    · rw [hz] at hxd; simp [rowData] at hxd
    rw [hz] at hxd
    simp only [rowData, DataW.slice.injEq] at hxd
    have hl' := lits_inj hxd.1
    have hle : len ≤ zs.length := by rw [hzl]; split <;> omega
    have hlen' : l.length = len := by rw [← hl', List.length_take]; omega
    have hc0 : W.cell? ⟨0, i, none⟩ = some (.slice (some a) len cap) := by
      rw [World.var?_cell gOps hv i]
      have : (cs.toList.drop i)[0]? = some (.slice (some a) len cap) := by
        have e : ((cs.toList.drop i).take 1)[0]? = some (.slice (some a) len cap) := by rw [hcs]; rfl
        rw [List.getElem?_take] at e
        simpa using e
      rw [List.getElem?_drop] at this
      simpa using this
    refine ⟨some a, cap, by rw [hlen']; exact hc0, fun hne => ?_⟩
    have hpos : 0 < zs.length := by
      have : l.length ≠ 0 := by simpa using hne
      omega
    obtain ⟨b, off, rfl, hc⟩ := ints_at hcell hpos
    refine ⟨b, off, rfl, cell_lt (hc 0 hpos), fun j hj => ?_⟩
    rw [hc j (by omega), ← hl']
    have : j < len := by omega
    simp [this]
  refine ⟨?_, hrow⟩
  obtain ⟨ao, cap, h, _⟩ := hrow 0 [2] rfl
  exact cell_lt h

/-- The named variables, read again in a world that is as it was below its old end. -/
theorem vars_below {H : Type} {enc : TypeId × Value → H} {W W' : World} (hb : Below W.heap.size W W') : ∀ {ns : List String} {gs : List (DataW H)} {ps : List MemPlace},
    DataW.TrodVars enc Eeug.prog W (fun _ => true) ns gs ps → (∀ x ∈ ps, x.block < W.heap.size) →
    (∀ n ∈ ns, ∀ g t, Eeug.prog.globalNamed n = some g → (Eeug.prog.globals[g]?).map (·.type) = some t → g < W.heap.size ∧ Eeug.prog.readableRec t = true ∧ t < Eeug.prog.types.size) →
    DataW.TrodVars enc Eeug.prog W' (fun b => decide (b < W.heap.size)) ns gs ps
  | [], [], _, h, _, _ => h
  | [], _ :: _, _, h, _, _ => by cases h
  | _ :: _, [], _, h, _, _ => by cases h
  | n :: ns, d :: ds, _, h, hlt, hok => by
    obtain ⟨g, t, cs, fuel, p, q, h1, h2, h3, h4, hs, rfl⟩ := h
    obtain ⟨hg, hr, ht⟩ := hok n (List.mem_cons_self ..) g t h1 h2
    obtain ⟨fuel', hd'⟩ := Below.trod laidOut hr ht (v := .agg cs) (⟨fuel, by simpa [Value.cells] using h4⟩ : DataW.Trod enc Eeug.prog W 0 (fun _ => true) true t (.agg cs) d p) hb
      (fun x hx => hlt x (by simp [hx]))
    exact ⟨g, t, cs, fuel', p, q, h1, h2, var?_below hb h1 hg h3, by simpa [Value.cells] using hd',
      vars_below hb hs (fun x hx => hlt x (by simp [hx])) (fun n' hn' => hok n' (List.mem_cons_of_mem _ hn')), rfl⟩


/-- The listed names, as bytes, off the given datum. -/
def nameBytes : DataW Unit → List UInt8
  | .lit (.string s) => s
  | _ => []
def opNames : List (List UInt8) := match (Rows.laid_github_com_d5_tengo_v2_parser_OpcodeNames : DataW Unit) with
  | .agg l => l.map nameBytes
  | _ => []
theorem opNames_len : opNames.length = 42 := by decide
theorem laid_names : (Rows.laid_github_com_d5_tengo_v2_parser_OpcodeNames : DataW Unit) = .agg (opNames.map fun s => .lit (.string s)) := rfl
def nameOf (i : Nat) : ByteArray := ⟨(opNames.getD i []).toArray⟩
def Names (W : World) : Prop := 1 < W.heap.size ∧ ∀ i, i < 42 → W.cell? ⟨1, i, none⟩ = some (.string (nameOf i))

theorem cells9 : Eeug.prog.cellsOf 9 = 1 := by kernel_rfl
def namesVar : String := Rows.fnFormatInstructionsOneLinePerInstructionSpec.vars.getD 1 ""
theorem gNames : Eeug.prog.globalNamed namesVar = some 1 := by kernel_rfl
theorem tNames : (Eeug.prog.globals[1]?).map (·.type) = some 39 := by kernel_rfl

theorem names_of_trod {W : World} {fuel : Nat} {cs : Array Value} {p : List MemPlace} {sp : Nat → Bool}
    (hv : W.var? Eeug.prog namesVar = some cs)
    (hd : DataW.trod (fun _ => ()) Eeug.prog W 0 sp false fuel 39 cs.toList = some (.agg (opNames.map fun s => .lit (.string s)), p)) : Names W := by
  obtain ⟨xs, m, rfl, hx, hlen, hn, hel⟩ := DataW.trod_array Eeug.underlying39 hd
  simp only [Prod.mk.injEq, DataW.agg.injEq] at hx
  have hrow : ∀ i, i < 42 → W.cell? ⟨1, i, none⟩ = some (.string (nameOf i)) := by
    intro i hi
    have h1 := hel i hi
    obtain ⟨s, hs⟩ : ∃ s, opNames[i]? = some s := ⟨_, List.getElem?_eq_getElem (by rw [opNames_len]; exact hi)⟩
    have h2 : (xs.map (·.1))[i]? = some (.lit (.string s)) := by rw [← hx.1, List.getElem?_map, hs]; rfl
    rw [List.getElem?_map] at h2
    obtain ⟨x, hxi, hxd⟩ := Option.map_eq_some_iff.1 h2
    rw [hxi, cells9, Nat.mul_one] at h1
    obtain ⟨t, hcs, hz, _⟩ := DataW.trod_string Eeug.underlying9 h1
    rw [hz] at hxd
    have ht : t = nameOf i := by
      have e : t.data.toList = s := by simpa using hxd
      unfold nameOf
      rw [List.getD_eq_getElem?_getD, hs]
      show t = ⟨s.toArray⟩
      rw [← e]
    rw [World.var?_cell gNames hv i]
    have : (cs.toList.drop i)[0]? = some (.string t) := by
      have e : ((cs.toList.drop i).take 1)[0]? = some (.string t) := by rw [hcs]; rfl
      rw [List.getElem?_take] at e
      simpa using e
    rw [List.getElem?_drop] at this
    rw [← ht]
    simpa using this
  exact ⟨cell_lt (hrow 0 (by decide)), hrow⟩

end Go.Proofs.YoeeuwFmt

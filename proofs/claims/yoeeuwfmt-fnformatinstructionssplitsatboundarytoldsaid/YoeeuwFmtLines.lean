/-
  OUR OWN. What FormatInstructions lists, as plain functions of the instructions and of fmt's interpretation F; the listing splits at a boundary.
-/
import Derived.Test.YoeeuwFmtPlain
import Derived.Stop.CallBack
import Derived.Stop.IfaceNil
import Derived.Stop.JoinedTold
namespace Go.Proofs.YoeeuwFmt
open Go.RowKit Go.Extern.Stop Go.Stop Go.Extern

def shape3 : List UInt8 := [5, 3, 0, 0, 0, 0, 0, 0, 0, 105, 110, 116]
def shape9 : List UInt8 := [12, 6, 0, 0, 0, 0, 0, 0, 0, 115, 116, 114, 105, 110, 103]
def fmt0 : List UInt8 := [37, 48, 52, 100, 32, 37, 45, 55, 115]
def fmt1 : List UInt8 := [37, 48, 52, 100, 32, 37, 45, 55, 115, 32, 37, 45, 53, 100]
def fmt2 : List UInt8 := [37, 48, 52, 100, 32, 37, 45, 55, 115, 32, 37, 45, 53, 100, 32, 37, 45, 53, 100]
/-- One line: what fmt answers at that position, opcode and operands. -/
def line0 (F : Interp) (pos : Int) (q : Nat) : ByteArray := FmtStop.textOf (F "fmt.Sprintf" [fmt0, shape3, digits 8 (pos % 18446744073709551616).toNat, shape9, FmtStop.pack (nameOf q).data.toList] 0)
def line1 (F : Interp) (pos : Int) (q : Nat) (x : Int) : ByteArray := FmtStop.textOf (F "fmt.Sprintf" [fmt1, shape3, digits 8 (pos % 18446744073709551616).toNat, shape9, FmtStop.pack (nameOf q).data.toList, shape3, digits 8 (x % 18446744073709551616).toNat] 0)
def line2 (F : Interp) (pos : Int) (q : Nat) (x y : Int) : ByteArray := FmtStop.textOf (F "fmt.Sprintf" [fmt2, shape3, digits 8 (pos % 18446744073709551616).toNat, shape9, FmtStop.pack (nameOf q).data.toList, shape3, digits 8 (x % 18446744073709551616).toNat, shape3, digits 8 (y % 18446744073709551616).toNat] 0)

/-- The operands out of the operand bytes, by the row's widths. -/
def dec : List Int → List Int → List Int
  | 1 :: ws, b :: bs => b :: dec ws bs
  | 2 :: ws, b0 :: b1 :: bs => (b0 * 256 + b1) :: dec ws bs
  | 4 :: ws, b0 :: b1 :: b2 :: b3 :: bs => (b0 * 16777216 + (b1 * 65536 + (b2 * 256 + b3))) :: dec ws bs
  | _, _ => []
def lineOf (F : Interp) (pos : Int) (q : Nat) : List Int → ByteArray
  | [] => line0 F pos q
  | [x] => line1 F pos q x
  | x :: y :: _ => line2 F pos q x y
/-- The line of one instruction's bytes. -/
def line (F : Interp) (pos : Int) : List Int → ByteArray
  | q :: rest => lineOf F pos q.toNat (dec (opRows.getD q.toNat []) rest)
  | [] => ByteArray.empty
/-- The listing of instructions, the first at offset i. -/
def lines (F : Interp) (p : Int) : Nat → List (List Int) → List ByteArray
  | _, [] => []
  | i, l :: I => line F (IntKind.i64.wrap (p + i)) l :: lines F p (i + l.length) I

theorem lines_len (F : Interp) (p : Int) : ∀ (I : List (List Int)) (i : Nat), (lines F p i I).length = I.length
  | [], _ => rfl
  | l :: I, i => by simp [lines, lines_len F p I]
theorem lines_append (F : Interp) (p : Int) : ∀ (A B : List (List Int)) (i : Nat), lines F p i (A ++ B) = lines F p i A ++ lines F p (i + A.flatten.length) B
  | [], B, i => by simp [lines]
  | l :: A, B, i => by
    simp only [List.cons_append, lines, List.flatten_cons, List.length_append]
    rw [lines_append F p A B, Nat.add_assoc]
theorem lines_shift (F : Interp) (p : Int) (n : Nat) : ∀ (B : List (List Int)) (i : Nat), lines F (IntKind.i64.wrap (p + n)) i B = lines F p (n + i) B
  | [], _ => rfl
  | l :: B, i => by
    simp only [lines]
    rw [lines_shift F p n B, Nat.add_assoc]
    have e : IntKind.i64.wrap (IntKind.i64.wrap (p + n) + i) = IntKind.i64.wrap (p + ((n + i : Nat) : Int)) := by
      simp only [IntKind.wrap_i64]; omega
    rw [e]

/-- Where the next instruction lies in the code. -/
theorem at_pos {I I1 I3 : List (List Int)} {a : Int} {rest : List Int} (h : I = I1 ++ (a :: rest) :: I3) :
    I.flatten.getD I1.flatten.length 0 = a ∧ (∀ t, t < rest.length → I.flatten.getD (I1.flatten.length + 1 + t) 0 = rest.getD t 0) ∧ I1.flatten.length + 1 + rest.length ≤ I.flatten.length := by
  subst h
  have e : (I1 ++ (a :: rest) :: I3).flatten = I1.flatten ++ (a :: (rest ++ I3.flatten)) := by simp
  rw [e]
  refine ⟨?_, fun t ht => ?_, ?_⟩
  · rw [List.getD_eq_getElem?_getD, List.getElem?_append_right (Nat.le_refl _)]; simp
  · rw [List.getD_eq_getElem?_getD, List.getElem?_append_right (by omega)]
    rw [show I1.flatten.length + 1 + t - I1.flatten.length = t + 1 from by omega, List.getElem?_cons_succ, List.getElem?_append_left ht, List.getD_eq_getElem?_getD]
  · rw [List.length_append, List.length_cons, List.length_append]; omega
theorem next_of {I1 I2 : List (List Int)} (h : ∀ l ∈ I1 ++ I2, Ins l) (hlt : I1.flatten.length < (I1 ++ I2).flatten.length) : ∃ (q : Nat) (rest : List Int) (I3 : List (List Int)), I2 = ((q : Int) :: rest) :: I3 ∧ q < 42 ∧ rest.length = wsum q ∧ (∀ b ∈ rest, 0 ≤ b ∧ b ≤ 255) := by
  cases I2 with
  | nil => simp at hlt
  | cons l I3 =>
    obtain ⟨q, rest, rfl, hq, hr, hb⟩ := h l (by simp)
    exact ⟨q, rest, I3, rfl, hq, hr, hb⟩
theorem end_of {I1 I2 : List (List Int)} (h : ∀ l ∈ I1 ++ I2, Ins l) (hge : (I1 ++ I2).flatten.length ≤ I1.flatten.length) : I2 = [] := by
  cases I2 with
  | nil => rfl
  | cons l I3 =>
    have := (h l (by simp)).len
    simp at hge; omega
theorem own_later {w w' : World} {base : Nat} {e : TypeId} {size n : Nat} {v : Value} {xs : List Value} (h : w.ownsRow base e size v n xs) (hB : Below w.heap.size w w') : w'.ownsRow base e size v n xs := by
  obtain ⟨h1, h2⟩ := h
  refine ⟨h1, ?_⟩
  rcases h2 with h2 | ⟨g, cap, cur, hv, hb, hg, r⟩
  · exact .inl h2
  · refine .inr ⟨g, cap, cur, hv, hb, ?_, r⟩
    have hlt : g < w.heap.size := by
      rcases Nat.lt_or_ge g w.heap.size with h | h
      · exact h
      · rw [Array.getElem?_eq_none h] at hg; cases hg
    rw [hB.block g hlt]; exact hg
end Go.Proofs.YoeeuwFmt

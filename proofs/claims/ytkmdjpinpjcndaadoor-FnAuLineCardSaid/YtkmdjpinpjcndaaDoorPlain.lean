/-
  Plain laws: lists of bytes, words with blanks between them.
-/
import Derived.Test.YtkmdjpinpjcndaaDoorWWords
import Derived.Lib.UnsafeStr
namespace Go.Proofs.YtkmdjpinpjcndaaDoor
open Go.RowKit Go.Proofs.YtkmdjpinpjcndaaDoorW.PrintWords

/-- The words of a line, single blanks between them. -/
def sp : List (List UInt8) → List UInt8
  | [] => []
  | [a] => a
  | a :: b :: r => a ++ 32 :: sp (b :: r)
/-- Words, a blank behind each. -/
def pre (ws : List (List UInt8)) : List UInt8 := ws.flatMap (· ++ [32])
theorem pre_snoc (ws : List (List UInt8)) (x : List UInt8) : pre (ws ++ [x]) = pre ws ++ x ++ [32] := by simp [pre]
theorem sp_snoc : ∀ (ws : List (List UInt8)) (x : List UInt8), sp (ws ++ [x]) = pre ws ++ x
  | [], x => by simp [sp, pre]
  | [a], x => by simp [sp, pre]
  | a :: b :: r, x => by
    have ih := sp_snoc (b :: r) x
    simp only [List.cons_append] at ih ⊢
    rw [sp, ih]
    simp [pre]
theorem sp_snoc' (ws : List (List UInt8)) (x : List UInt8) (h : ws ≠ []) : sp (ws ++ [x]) = sp ws ++ [32] ++ x := by
  rw [sp_snoc]
  obtain ⟨r, y, rfl⟩ : ∃ r y, ws = r ++ [y] := ⟨ws.dropLast, ws.getLast h, (List.dropLast_concat_getLast h).symm⟩
  rw [sp_snoc, pre_snoc]
/-- What is in the buffer behind k rounds. -/
def lineTo (ws : List (List UInt8)) (k : Nat) : List UInt8 := if k < ws.length then pre (ws.take k) else sp ws
theorem take_snoc' {α : Type} (ws : List α) (k : Nat) (h : k < ws.length) : ws.take (k + 1) = ws.take k ++ [ws[k]] := by
  rw [List.take_succ_eq_append_getElem h]
theorem lineTo_zero (ws : List (List UInt8)) : lineTo ws 0 = [] := by
  unfold lineTo
  split
  · simp [pre]
  · have : ws = [] := List.eq_nil_of_length_eq_zero (by omega)
    subst this; rfl
theorem lineTo_mid (ws : List (List UInt8)) (k : Nat) (h : k + 1 < ws.length) : lineTo ws (k + 1) = lineTo ws k ++ ws[k] ++ [32] := by
  unfold lineTo
  rw [if_pos h, if_pos (by omega), take_snoc' ws k (by omega), pre_snoc]
theorem lineTo_last (ws : List (List UInt8)) (k : Nat) (h : k < ws.length) (h2 : ¬ k + 1 < ws.length) : lineTo ws (k + 1) = lineTo ws k ++ ws[k] := by
  unfold lineTo
  rw [if_neg h2, if_pos h]
  have : ws = ws.take k ++ [ws[k]] := by rw [← take_snoc' ws k h, List.take_of_length_le (by omega)]
  conv => lhs; rw [this]
  rw [sp_snoc]
theorem lineTo_all (ws : List (List UInt8)) (k : Nat) (h : ¬ k < ws.length) : lineTo ws k = sp ws := by
  unfold lineTo; rw [if_neg h]
/-- How long a line can be. -/
def total (ws : List (List UInt8)) : Nat := (ws.map (fun x => x.length + 1)).sum
theorem pre_length (ws : List (List UInt8)) : (pre ws).length = total ws := by
  induction ws with
  | nil => rfl
  | cons a r ih => simp only [pre, total, List.flatMap_cons, List.length_append, List.map_cons, List.sum_cons] at *; simp [ih]
theorem total_take (ws : List (List UInt8)) (k : Nat) : total (ws.take k) ≤ total ws := by
  conv => rhs; rw [← List.take_append_drop k ws]
  unfold total
  rw [List.map_append, List.sum_append]
  omega
theorem total_snoc (ws : List (List UInt8)) (x : List UInt8) : total (ws ++ [x]) = total ws + x.length + 1 := by simp [total]; omega
theorem total_at (ws : List (List UInt8)) (k : Nat) (h : k < ws.length) : total (ws.take k) + ws[k].length + 1 ≤ total ws := by
  have := total_take ws (k + 1)
  rw [take_snoc' ws k h, total_snoc] at this
  exact this
theorem sp_length : ∀ ws : List (List UInt8), (sp ws).length ≤ total ws
  | [] => by simp [sp]
  | [a] => by simp [sp, total]
  | a :: b :: r => by
    have := sp_length (b :: r)
    rw [sp]
    simp only [total, List.map_cons, List.sum_cons, List.length_append, List.length_cons] at *
    omega
theorem lineTo_length (ws : List (List UInt8)) (k : Nat) : (lineTo ws k).length ≤ total ws := by
  unfold lineTo
  split
  · rw [pre_length]; exact total_take ws k
  · exact sp_length ws
theorem lineTo_length_at (ws : List (List UInt8)) (k : Nat) (h : k < ws.length) : (lineTo ws k).length + ws[k].length + 1 ≤ total ws := by
  unfold lineTo
  rw [if_pos h, pre_length]
  exact total_at ws k h
theorem total_le (ws : List (List UInt8)) (m : Nat) (h : ∀ x ∈ ws, x.length ≤ m) : total ws ≤ ws.length * (m + 1) := by
  induction ws with
  | nil => simp [total]
  | cons a r ih =>
    have := ih fun x hx => h x (by simp [hx])
    have ha := h a (by simp)
    simp only [total, List.map_cons, List.sum_cons, List.length_cons] at *
    rw [Nat.add_mul]
    omega

/-- Bytes as numbers. -/
def ints (l : List UInt8) : List Int := l.map fun b => (b.toNat : Int)
theorem ints_length (l : List UInt8) : (ints l).length = l.length := by simp [ints]
theorem ints_append (l m : List UInt8) : ints (l ++ m) = ints l ++ ints m := by simp [ints]
theorem nums_ints (l : List UInt8) : nums .u8 (ints l) = Lib.byteCells l := by simp [nums, ints, Lib.byteCells]
end Go.Proofs.YtkmdjpinpjcndaaDoor

/-
  Plain laws: lists of bytes, words with blanks between them; blocks that stand; slices that can be added to.
-/
import Derived.Test.YtkmdjpinpjcndaaGreatDoorWWords
import Derived.Test.YtkmdjpinpjcndaaGreatDoorShelf
import Derived.Lib.UnsafeStr
import Derived.ArgAppend
import Derived.Laws.IdiomCopy
import Derived.Deep.RegionLaw
import Derived.Lib.Builder
import Derived.Laws.Rows
import Derived.Maps.AppendAt
namespace Go.Proofs.YtkmdjpinpjcndaaGreatDoor
open Go.RowKit Go.Proofs.YtkmdjpinpjcndaaGreatDoorW.PrintWords

/-- The words of a line, single blanks between them. -/
def sp : List (List UInt8) → List UInt8
  | [] => []
  | [a] => a
  | a :: b :: r => a ++ 32 :: sp (b :: r)
/-- Words, a blank behind each. -/
def pre (ws : List (List UInt8)) : List UInt8 := ws.flatMap (· ++ [32])
theorem pre_snoc (ws : List (List UInt8)) (x : List UInt8) : pre (ws ++ [x]) = pre ws ++ x ++ [32] := by simp [pre]
theorem sp_snoc : ∀ (ws : List (List UInt8)) (x : List UInt8), sp (ws ++ [x]) = pre ws ++ x
  | [], x => by simp [sp, pre]
  | [a], x => by simp [sp, pre]
  | a :: b :: r, x => by
    have ih := sp_snoc (b :: r) x
    simp only [List.cons_append] at ih ⊢
    rw [sp, ih]
    simp [pre]
theorem sp_snoc' (ws : List (List UInt8)) (x : List UInt8) (h : ws ≠ []) : sp (ws ++ [x]) = sp ws ++ [32] ++ x := by
  rw [sp_snoc]
  obtain ⟨r, y, rfl⟩ : ∃ r y, ws = r ++ [y] := ⟨ws.dropLast, ws.getLast h, (List.dropLast_concat_getLast h).symm⟩
  rw [sp_snoc, pre_snoc]
/-- What is in the buffer behind k rounds. -/
def lineTo (ws : List (List UInt8)) (k : Nat) : List UInt8 := if k < ws.length then pre (ws.take k) else sp ws
theorem take_snoc' {α : Type} (ws : List α) (k : Nat) (h : k < ws.length) : ws.take (k + 1) = ws.take k ++ [ws[k]] := by
  rw [List.take_succ_eq_append_getElem h]
theorem lineTo_zero (ws : List (List UInt8)) : lineTo ws 0 = [] := by
  unfold lineTo
  split
  · simp [pre]
  · have : ws = [] := List.eq_nil_of_length_eq_zero (by omega)
    subst this; rfl
theorem lineTo_mid (ws : List (List UInt8)) (k : Nat) (h : k + 1 < ws.length) : lineTo ws (k + 1) = lineTo ws k ++ ws[k] ++ [32] := by
  unfold lineTo
  rw [if_pos h, if_pos (by omega), take_snoc' ws k (by omega), pre_snoc]
theorem lineTo_last (ws : List (List UInt8)) (k : Nat) (h : k < ws.length) (h2 : ¬ k + 1 < ws.length) : lineTo ws (k + 1) = lineTo ws k ++ ws[k] := by
  unfold lineTo
  rw [if_neg h2, if_pos h]
  have : ws = ws.take k ++ [ws[k]] := by rw [← take_snoc' ws k h, List.take_of_length_le (by omega)]
  conv => lhs; rw [this]
  rw [sp_snoc]
theorem lineTo_all (ws : List (List UInt8)) (k : Nat) (h : ¬ k < ws.length) : lineTo ws k = sp ws := by
  unfold lineTo; rw [if_neg h]
/-- How long a line can be. -/
def total (ws : List (List UInt8)) : Nat := (ws.map (fun x => x.length + 1)).sum
theorem pre_length (ws : List (List UInt8)) : (pre ws).length = total ws := by
  induction ws with
  | nil => rfl
  | cons a r ih => simp only [pre, total, List.flatMap_cons, List.length_append, List.map_cons, List.sum_cons] at *; simp [ih]
theorem total_take (ws : List (List UInt8)) (k : Nat) : total (ws.take k) ≤ total ws := by
  conv => rhs; rw [← List.take_append_drop k ws]
  unfold total
  rw [List.map_append, List.sum_append]
  omega
theorem total_snoc (ws : List (List UInt8)) (x : List UInt8) : total (ws ++ [x]) = total ws + x.length + 1 := by simp [total]; omega
theorem total_at (ws : List (List UInt8)) (k : Nat) (h : k < ws.length) : total (ws.take k) + ws[k].length + 1 ≤ total ws := by
  have := total_take ws (k + 1)
  rw [take_snoc' ws k h, total_snoc] at this
  exact this
theorem sp_length : ∀ ws : List (List UInt8), (sp ws).length ≤ total ws
  | [] => by simp [sp]
  | [a] => by simp [sp, total]
  | a :: b :: r => by
    have := sp_length (b :: r)
    rw [sp]
    simp only [total, List.map_cons, List.sum_cons, List.length_append, List.length_cons] at *
    omega
theorem lineTo_length (ws : List (List UInt8)) (k : Nat) : (lineTo ws k).length ≤ total ws := by
  unfold lineTo
  split
  · rw [pre_length]; exact total_take ws k
  · exact sp_length ws
theorem lineTo_length_at (ws : List (List UInt8)) (k : Nat) (h : k < ws.length) : (lineTo ws k).length + ws[k].length + 1 ≤ total ws := by
  unfold lineTo
  rw [if_pos h, pre_length]
  exact total_at ws k h
theorem total_le (ws : List (List UInt8)) (m : Nat) (h : ∀ x ∈ ws, x.length ≤ m) : total ws ≤ ws.length * (m + 1) := by
  induction ws with
  | nil => simp [total]
  | cons a r ih =>
    have := ih fun x hx => h x (by simp [hx])
    have ha := h a (by simp)
    simp only [total, List.map_cons, List.sum_cons, List.length_cons] at *
    rw [Nat.add_mul]
    omega

/-- Bytes as numbers. -/
def ints (l : List UInt8) : List Int := l.map fun b => (b.toNat : Int)
theorem ints_length (l : List UInt8) : (ints l).length = l.length := by simp [ints]
theorem ints_append (l m : List UInt8) : ints (l ++ m) = ints l ++ ints m := by simp [ints]
theorem nums_ints (l : List UInt8) : nums .u8 (ints l) = Lib.byteCells l := by simp [nums, ints, Lib.byteCells]

/-! ### Blocks that stand -/
/-- These blocks are as they were; none is gone; the streams are as they were. -/
structure Fix (P : Nat → Prop) (w w' : World) : Prop where
  os : w'.os = w.os
  tape : w'.tape = w.tape
  output : w'.output = w.output
  size : w.heap.size ≤ w'.heap.size
  block : ∀ g, P g → w'.heap[g]? = w.heap[g]?
abbrev Lt (P : Nat → Prop) (w : World) : Prop := ∀ g, P g → g < w.heap.size
variable {P D : Nat → Prop} {w w1 w2 : World}
theorem Fix.refl (P : Nat → Prop) (w : World) : Fix P w w := ⟨rfl, rfl, rfl, Nat.le_refl _, fun _ _ => rfl⟩
theorem Fix.trans (h : Fix P w w1) (k : Fix P w1 w2) : Fix P w w2 := ⟨k.os.trans h.os, k.tape.trans h.tape, k.output.trans h.output, Nat.le_trans h.size k.size, fun g hg => (k.block g hg).trans (h.block g hg)⟩
theorem Fix.mono (h : Fix P w w1) (hD : ∀ g, D g → P g) : Fix D w w1 := ⟨h.os, h.tape, h.output, h.size, fun g hg => h.block g (hD g hg)⟩
theorem Fix.step (h : Fix P w w1) (k : Fix D w1 w2) (hD : ∀ g, P g → D g) : Fix P w w2 := h.trans (k.mono hD)
theorem Fix.cell (h : Fix P w w1) {a : Addr} (ha : P a.block) : w1.cell? a = w.cell? a := World.cell?_of_block (w := w) (h.block _ ha)
theorem Fix.lt (h : Fix P w w1) (hP : Lt P w) : Lt P w1 := fun g hg => Nat.lt_of_lt_of_le (hP g hg) h.size
theorem Fix.alloc (hP : Lt P w) (o : Obj) : Fix P w (w.alloc o) := ⟨rfl, rfl, rfl, by simp, fun g hg => Below.heap_alloc w o g (hP g hg)⟩
theorem Fix.setCell {a : Addr} (h : ¬ P a.block) (u : Value) : Fix P w (w.setCell a u) := ⟨rfl, rfl, rfl, by simp [World.setCell], fun g hg => Below.heap_setCell w a u g (fun e => h (e ▸ hg))⟩
theorem Fix.grown {row : Option Nat} (hP : Lt P w) (h : w.grownBy w1 row) (hr : ∀ k, row = some k → ¬ P k) : Fix P w w1 := ⟨h.os, h.tape, h.output, h.size, fun g hg => h.block g (hP g hg) (fun e => hr g e.symm hg)⟩
theorem Fix.drewN (n : Nat) : Fix P w (w.drewN n) := ⟨rfl, rfl, rfl, Nat.le_refl _, fun _ _ => rfl⟩
theorem Fix.drew : Fix P w w.drew := ⟨rfl, rfl, rfl, Nat.le_refl _, fun _ _ => rfl⟩
theorem Fix.ofBelow {B : Nat} (h : Below B w w1) (hP : ∀ g, P g → g < B) : Fix P w w1 := ⟨h.os, h.tape, h.output, h.size, fun g hg => h.block g (hP g hg)⟩
theorem Fix.below {B : Nat} (h : Fix (fun g => g < B) w w1) : Below B w w1 := ⟨h.os, h.tape, h.output, h.size, fun g hg => h.block g hg⟩

/-! ### Bytes in a block that stands -/
/-- Bytes that are read, in a block of D. -/
structure RB (D : Nat → Prop) (w : World) (A : Option Addr) (l : List UInt8) : Prop where
  small : l.length ≤ 9223372036854775807
  cells : 0 < l.length → ∃ b o, A = some ⟨b, o, none⟩ ∧ D b ∧ ∀ (j : Nat) (h : j < l.length), w.cell? ⟨b, o + j, none⟩ = some (.int .u8 (l[j].toNat : Int))
theorem RB.fix {A : Option Addr} {l : List UInt8} (h : RB D w A l) (hf : Fix D w w1) : RB D w1 A l := ⟨h.small, fun hl => by
  obtain ⟨b, o, e, hD, hc⟩ := h.cells hl
  exact ⟨b, o, e, hD, fun j hj => (hf.cell (a := ⟨b, o + j, none⟩) hD).trans (hc j hj)⟩⟩
theorem RB.mono {A : Option Addr} {l : List UInt8} (h : RB D w A l) (hD : ∀ g, D g → P g) : RB P w A l := ⟨h.small, fun hl => by
  obtain ⟨b, o, e, hd, hc⟩ := h.cells hl
  exact ⟨b, o, e, hD _ hd, hc⟩⟩
theorem ints_getD (l : List UInt8) (j : Nat) (h : j < l.length) : (ints l).getD j 0 = (l[j].toNat : Int) := by simp [ints, List.getD_eq_getElem?_getD, h]
theorem add_at (b o j : Nat) : (⟨b, o, none⟩ : Addr).add j = ⟨b, o + j, none⟩ := by unfold Addr.add; split <;> simp_all
theorem RB.reads {A : Option Addr} {l : List UInt8} (h : RB D w A l) : ReadsInt w .u8 A l.length (ints l) := ⟨ints_length l, h.small, fun hl => by
  obtain ⟨b, o, e, hD, hc⟩ := h.cells hl
  exact ⟨_, e, fun j hj => by rw [add_at, hc j hj, ints_getD l j hj]⟩⟩
theorem RB.bytesIn {A : Option Addr} {l : List UInt8} (h : RB D w A l) : Lib.BytesIn w A l.length (ints l) := fun hl => by
  obtain ⟨b, o, e, hD, hc⟩ := h.cells hl
  exact ⟨b, o, e, fun j hj => by rw [hc j hj, ints_getD l j hj]⟩
theorem bytesOf_ints (l : List UInt8) : Lib.bytesOf (ints l) = l := by
  unfold Lib.bytesOf ints
  rw [List.map_map]
  conv => rhs; rw [← List.map_id l]
  apply List.map_congr_left
  intro b _
  simp
theorem RB.nil (D : Nat → Prop) (w : World) (A : Option Addr) : RB D w A [] := ⟨by simp, fun h => by simp at h⟩
/-- A block whose cells are known. -/
theorem RB.ofBlock {g o : Nat} {cs : Array Value} {e : TypeId} {fr : Nat × Nat} {l : List UInt8} (hh : w.heap[g]? = some (.cells cs e fr)) (hD : D g) (hs : l.length ≤ 9223372036854775807) (hc : ∀ (j : Nat) (h : j < l.length), cs[o + j]? = some (.int .u8 (l[j].toNat : Int))) : RB D w (some ⟨g, o, none⟩) l :=
  ⟨hs, fun _ => ⟨g, o, rfl, hD, fun j hj => by rw [Lib.cell_of_heap hh]; exact hc j hj⟩⟩

/-- A slice of slices of bytes that is read. -/
structure RW (D : Nat → Prop) (w : World) (A : Option Addr) (ws : List (List UInt8)) : Prop where
  small : ws.length ≤ 9223372036854775807
  cells : ∀ (j : Nat) (hj : j < ws.length), ∃ b o Aj cj, A = some ⟨b, o, none⟩ ∧ D b ∧ w.cell? ⟨b, o + j, none⟩ = some (.slice Aj (ws[j]).length cj) ∧ RB D w Aj ws[j]
theorem RW.fix {A : Option Addr} {ws : List (List UInt8)} (h : RW D w A ws) (hf : Fix D w w1) : RW D w1 A ws := ⟨h.small, fun j hj => by
  obtain ⟨b, o, Aj, cj, e, hd, hc, hr⟩ := h.cells j hj
  exact ⟨b, o, Aj, cj, e, hd, (hf.cell (a := ⟨b, o + j, none⟩) hd).trans hc, hr.fix hf⟩⟩
theorem RW.mono {A : Option Addr} {ws : List (List UInt8)} (h : RW D w A ws) (hD : ∀ g, D g → P g) : RW P w A ws := ⟨h.small, fun j hj => by
  obtain ⟨b, o, Aj, cj, e, hd, hc, hr⟩ := h.cells j hj
  exact ⟨b, o, Aj, cj, e, hD _ hd, hc, hr.mono hD⟩⟩

/-! ### Slices that can be added to -/
/-- A slice whose cells (of type e, one a place) may be written up to its capacity; its block is none of P. -/
def Buf (P : Nat → Prop) (w : World) (e : TypeId) (v : Value) (xs : List Value) : Prop :=
  (v = .slice none 0 0 ∧ xs = []) ∨
  ∃ g o cap cs, v = .slice (some ⟨g, o, none⟩) xs.length cap ∧ ¬ P g ∧ w.heap[g]? = some (.cells cs e (0, 0)) ∧ xs.length ≤ cap ∧ cap ≤ maxLen ∧ o + cap ≤ cs.size ∧ ∀ (j : Nat) (h : j < xs.length), cs[o + j]? = some xs[j]
theorem Buf.nil (P : Nat → Prop) (w : World) (e : TypeId) : Buf P w e (.slice none 0 0) [] := .inl ⟨rfl, rfl⟩
theorem Buf.mono {e : TypeId} {v : Value} {xs : List Value} (h : Buf P w e v xs) (hD : ∀ g, D g → v.ownBlock = some g → P g) : Buf D w e v xs := by
  rcases h with h | ⟨g, o, cap, cs, hv, hn, r⟩
  · exact .inl h
  · exact .inr ⟨g, o, cap, cs, hv, fun hd => hn (hD g hd (by rw [hv]; rfl)), r⟩
theorem Buf.stays {e : TypeId} {v : Value} {xs : List Value} (h : Buf P w e v xs) (hb : ∀ g, v.ownBlock = some g → w1.heap[g]? = w.heap[g]?) : Buf P w1 e v xs := by
  rcases h with h | ⟨g, o, cap, cs, hv, hn, hh, r⟩
  · exact .inl h
  · exact .inr ⟨g, o, cap, cs, hv, hn, by rw [hb g (by rw [hv]; rfl)]; exact hh, r⟩
theorem Buf.block {e : TypeId} {v : Value} {xs : List Value} (h : Buf P w e v xs) (g : Nat) (hg : v.ownBlock = some g) : ¬ P g ∧ ∃ cs, w.heap[g]? = some (.cells cs e (0, 0)) := by
  rcases h with ⟨h, _⟩ | ⟨g', o, cap, cs, hv, hn, hh, r⟩
  · rw [h] at hg; cases hg
  · rw [hv] at hg
    have : g' = g := by injection hg
    subst this
    exact ⟨hn, cs, hh⟩
theorem Buf.lt {e : TypeId} {v : Value} {xs : List Value} (h : Buf P w e v xs) (g : Nat) (hg : v.ownBlock = some g) : g < w.heap.size := by
  obtain ⟨_, cs, hh⟩ := h.block g hg
  exact (Array.getElem?_eq_some_iff.1 hh).1
theorem Buf.form {e : TypeId} {v : Value} {xs : List Value} (h : Buf P w e v xs) : ∃ A c, v = .slice A xs.length c := by
  rcases h with ⟨h, hx⟩ | ⟨g', o, cap, cs, hv, _⟩
  · exact ⟨none, 0, by rw [h, hx]; rfl⟩
  · exact ⟨_, _, hv⟩
theorem Buf.ofOwn {base n : Nat} {e : TypeId} {v : Value} {xs : List Value} (h : w.ownsRow base e 1 v n xs) (hn : ∀ g, v.ownBlock = some g → ¬ P g) : Buf P w e v xs := by
  have hl := h.1
  rcases h.2 with ⟨h1, h2⟩ | ⟨g, cap, cur, hv, hb, hh, h1, h2, h3, h4⟩
  · subst h2
    exact .inl ⟨h1, List.eq_nil_of_length_eq_zero (by simpa using hl)⟩
  · have hl' : xs.length = n := by simpa using hl
    refine .inr ⟨g, 0, cap, cur, by rw [hv, hl'], hn g (by rw [hv]; rfl), hh, by omega, h2, by omega, fun j hj => ?_⟩
    subst h4
    simp at hj ⊢
/-- The bytes in a buffer. -/
theorem Buf.rb {v : Value} {l : List UInt8} (h : Buf P w 5 v (Lib.byteCells l)) (hD : ∀ g, v.ownBlock = some g → D g) : ∃ A c, v = .slice A l.length c ∧ l.length ≤ c ∧ RB D w A l := by
  have hlen : (Lib.byteCells l).length = l.length := Lib.byteCells_length l
  rcases h with ⟨h, hx⟩ | ⟨g, o, cap, cs, hv, hn, hh, h1, h2, h3, h4⟩
  · have : l = [] := List.eq_nil_of_length_eq_zero (by rw [← hlen, hx]; rfl)
    subst this
    exact ⟨none, 0, h, Nat.le_refl _, RB.nil _ _ _⟩
  · rw [hlen] at hv h1
    refine ⟨_, cap, hv, h1, RB.ofBlock hh (hD g (by rw [hv]; rfl)) (by simp only [maxLen] at h2; omega) fun j hj => ?_⟩
    rw [h4 j (by rw [hlen]; exact hj)]
    simp [Lib.byteCells]

theorem setCells_heap (b : Nat) : ∀ (vs : List Value) (o : Nat) (w : World) (cs : Array Value) (e : TypeId), w.heap[b]? = some (.cells cs e (0, 0)) → o + vs.length ≤ cs.size →
    ∃ cs', (w.setCells b o vs).heap[b]? = some (.cells cs' e (0, 0)) ∧ cs'.size = cs.size ∧ (∀ (j : Nat) (h : j < vs.length), cs'[o + j]? = some vs[j]) ∧ ∀ j, j < o → cs'[j]? = cs[j]?
  | [], o, w, cs, e, hh, _ => ⟨cs, hh, rfl, fun j h => by simp at h, fun _ _ => rfl⟩
  | v :: r, o, w, cs, e, hh, hl => by
    simp only [List.length_cons] at hl
    obtain ⟨cs', h1, h2, h3, h4⟩ := setCells_heap b r (o + 1) (w.setCell ⟨b, o, none⟩ v) (cs.setIfInBounds o v) e (Go.heap_setCell_same w b o cs e v hh) (by simp; omega)
    refine ⟨cs', h1, by simpa using h2, fun j hj => ?_, fun j hj => ?_⟩
    · rcases j with _ | j
      · rw [Nat.add_zero, h4 o (by omega)]
        simp [show o < cs.size by omega]
      · have := h3 j (by simpa using hj)
        rw [show o + (j + 1) = o + 1 + j by omega, this]
        simp
    · rw [h4 j (by omega)]
      rw [Array.getElem?_setIfInBounds_ne (by omega)]
theorem setCells_grown (b : Nat) : ∀ (vs : List Value) (o : Nat) (w : World), w.grownBy (w.setCells b o vs) (some b)
  | [], _, w => World.grownBy.refl w _
  | v :: r, o, w => World.grownBy.trans (b := w.setCell ⟨b, o, none⟩ v) ⟨rfl, rfl, rfl, by simp [World.setCell], fun k _ hk => Below.heap_setCell w _ v k (fun e => hk (congrArg some e))⟩ (setCells_grown b r (o + 1) _)

/-- append, to a slice that can be added to. -/
theorem run_append_buf {Pr : Program} (t ty e : TypeId) (z : Value) (bytes : Nat) (ht : Pr.underlying t = some (.slice e)) (hinfo : (Pr.info? e).map (fun i => (i.zero, i.size, i.bytes)) = some (some z, 1, bytes)) (hzs : z.cells.size = 1) (hb0 : 0 < bytes)
    (v : Value) (xs : List Value) (hb : Buf P w e v xs) (a : Addr) (m c : Nat) (ys : List Value) (hl : ys.length = m) (hys : ∀ j u, ys[j]? = some u → w.cell? (a.add j) = some u) (h1 : ∀ u ∈ ys, u.oneCell' = true) (hP : Lt P w) (hbytes : (xs.length + m) * bytes ≤ 140737488355328) :
    ∃ v' w', (Builtin.append_ #[t, t] ty #[v, .slice (some a) m c]).run Pr w = .ok v' w' ∧ Buf P w' e v' (xs ++ ys) ∧ w.grownBy w' v.ownBlock ∧ (v'.ownBlock = v.ownBlock ∨ ∃ g, v'.ownBlock = some g ∧ w.heap.size ≤ g) := by
  obtain ⟨i, hi, hzz⟩ := Option.map_eq_some_iff.1 hinfo
  simp only [Prod.mk.injEq] at hzz
  obtain ⟨hz0, hz1, hz2⟩ := hzz
  have hlen : xs.length + m ≤ 140737488355328 := Nat.le_trans (Nat.le_mul_of_pos_right _ hb0) hbytes
  rcases hb with ⟨rfl, rfl⟩ | ⟨g, o, cap, cs, rfl, hn, hh, h2, h3, h4, h5⟩
  · obtain ⟨v', w', hrun, r1, r2, _, r3⟩ := run_append_own_at (P := Pr) w w.heap.size t ty e i z 1 bytes ht hi hz0 hz1 hz2 hzs (by omega) (.slice none 0 0) 0 [] (World.ownsRow_nil w _ e 1) a m c ys (by omega) hys h1 (by simp only [maxLen]; simp at hlen; omega) (by simpa using hbytes) (Nat.le_refl _)
    refine ⟨v', w', hrun, Buf.ofOwn (by simpa using r1) ?_, r2, ?_⟩
    · intro g hg
      rcases r3 with r3 | r3
      · rw [r3] at hg; cases hg
      · rw [r3] at hg
        injection hg with hg
        intro hp
        have := hP g hp
        omega
    · rcases r3 with r3 | r3
      · exact .inl r3
      · exact .inr ⟨_, r3, Nat.le_refl _⟩
  · by_cases hroom : xs.length + m ≤ cap
    · have hrun := run_append_room_cells (P := Pr) w t ty e i ht hi g o xs.length cap a m c ys (by rw [hz1]; omega) hys h1 hroom (fun j hj => by rw [Lib.cell_of_heap hh]; simp [show o + xs.length * i.size + j < cs.size by rw [hz1]; omega]) (fun j hj => by simp [World.frozen?, hh])
      rw [hz1, Nat.mul_one] at hrun
      obtain ⟨cs', e1, e2, e3, e4⟩ := setCells_heap g ys (o + xs.length) w cs e hh (by omega)
      refine ⟨_, _, hrun, .inr ⟨g, o, cap, cs', by rw [List.length_append, hl], hn, e1, by rw [List.length_append]; omega, h3, by omega, fun j hj => ?_⟩, setCells_grown g ys _ w, .inl rfl⟩
      by_cases hlt : j < xs.length
      · rw [e4 _ (by omega), h5 j hlt, List.getElem_append_left hlt]
      · rw [List.length_append] at hj
        have := e3 (j - xs.length) (by omega)
        rw [show o + xs.length + (j - xs.length) = o + j by omega] at this
        rw [this, List.getElem_append_right (by omega)]
    · obtain ⟨v', w', hrun, r1, r2⟩ := run_append_arg_grows (P := Pr) w t ty e i z 1 bytes ht hi hz0 hz1 hz2 hzs (by omega) ⟨g, o, none⟩ xs.length cap xs (by omega) (fun j u hu => by
          obtain ⟨hj, rfl⟩ := List.getElem?_eq_some_iff.1 hu
          rw [add_at, Lib.cell_of_heap hh, h5 j hj]) a m c ys (by omega) hys (by omega) (by simp only [maxLen]; omega) hbytes
      refine ⟨v', w', hrun, Buf.ofOwn r1 ?_, ⟨r2.os, r2.tape, r2.output, r2.size, fun k hk _ => r2.block k hk (by simp)⟩, ?_⟩
      · intro k hk hp
        have := hP k hp
        have := own_base r1 k hk
        omega
      · rcases hv : v'.ownBlock with _ | k
        · obtain ⟨A, c', e⟩ := own_slice r1
          rcases r1.2 with ⟨_, h0⟩ | ⟨g', cap', cur, e', _⟩
          · exfalso; omega
          · rw [e'] at hv; cases hv
        · exact .inr ⟨k, rfl, own_base r1 k hv⟩
end Go.Proofs.YtkmdjpinpjcndaaGreatDoor

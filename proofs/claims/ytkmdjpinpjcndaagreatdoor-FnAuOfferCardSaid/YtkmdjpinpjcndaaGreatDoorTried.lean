/-
  What is tried, in order; lines of one and of two words; what a mechanism offers.
-/
import Derived.Test.YtkmdjpinpjcndaaGreatDoorTry
import Derived.Test.YtkmdjpinpjcndaaGreatDoorFirst
import Derived.Test.YtkmdjpinpjcndaaGreatDoorNull
import Derived.Test.YtkmdjpinpjcndaaGreatDoorLine
namespace Go.Proofs.YtkmdjpinpjcndaaGreatDoor
open Go.RowKit Go.Proofs.YtkmdjpinpjcndaaGreatDoorW.PrintWords
variable {P D : Nat → Prop} {w w1 w2 : World}

/-- What is tried ahead of the i-th mechanism at the j-th name. -/
def triedTo (ns ms : List (List UInt8)) (j i : Nat) : List (List UInt8) := (ns.take j).flatMap (fun s => ms.filter (· == s)) ++ (ms.take i).filter (· == nAt ns j)
theorem tried_zero (ns ms : List (List UInt8)) : triedTo ns ms 0 0 = [] := by simp [triedTo]
theorem tried_hit (ns ms : List (List UInt8)) (j i : Nat) (hi : i < ms.length) (h : nAt ns j = nAt ms i) : triedTo ns ms j (i + 1) = triedTo ns ms j i ++ [nAt ns j] := by
  unfold triedTo
  rw [take_snoc' ms i hi, List.filter_append, ← nAt_eq ms i hi, List.append_assoc, ← h]
  simp
theorem tried_miss (ns ms : List (List UInt8)) (j i : Nat) (hi : i < ms.length) (h : nAt ns j ≠ nAt ms i) : triedTo ns ms j (i + 1) = triedTo ns ms j i := by
  unfold triedTo
  rw [take_snoc' ms i hi, List.filter_append, ← nAt_eq ms i hi]
  have : ([nAt ms i].filter (· == nAt ns j)) = [] := by simp [Ne.symm h]
  rw [this, List.append_nil]
theorem tried_next (ns ms : List (List UInt8)) (j : Nat) (hj : j < ns.length) : triedTo ns ms (j + 1) 0 = triedTo ns ms j ms.length := by
  unfold triedTo
  rw [take_snoc' ns j hj, List.flatMap_append, List.take_length, ← nAt_eq ns j hj]
  simp
/-- All that is tried. -/
def triedAll (ns ms : List (List UInt8)) : List (List UInt8) := ns.flatMap fun s => ms.filter (· == s)
theorem tried_all (ns ms : List (List UInt8)) (j : Nat) (hj : ¬ j < ns.length) : triedTo ns ms j 0 = triedAll ns ms := by
  unfold triedTo triedAll
  rw [List.take_of_length_le (by omega)]
  simp
theorem filter_len (ms : List (List UInt8)) (s : List UInt8) (i : Nat) : ((ms.take i).filter (· == s)).length ≤ (ms.filter (· == s)).length := by
  conv => rhs; rw [← List.take_append_drop i ms, List.filter_append, List.length_append]
  omega
theorem tried_le (ns ms : List (List UInt8)) (j i : Nat) (hj : j < ns.length) : (triedTo ns ms j i).length ≤ (triedAll ns ms).length := by
  unfold triedTo triedAll
  conv => rhs; rw [← List.take_append_drop j ns, List.flatMap_append, List.length_append]
  rw [List.length_append, List.drop_eq_getElem_cons hj, List.flatMap_cons, List.length_append, ← nAt_eq ns j hj]
  have := filter_len ms (nAt ns j) i
  omega
theorem tried_mem (ns ms : List (List UInt8)) : ∀ x ∈ triedAll ns ms, x ∈ ns := by
  intro x hx
  obtain ⟨s, hs, hm⟩ := List.mem_flatMap.1 hx
  have := (List.mem_filter.1 hm).2
  have : x = s := by simpa using this
  rw [this]; exact hs

def nAuth : List UInt8 := [65, 85, 84, 72]
def nBegin : List UInt8 := [66, 69, 71, 73, 78]
def nRej : List UInt8 := [82, 69, 74, 69, 67, 84, 69, 68]
/-- The line that tries a name. -/
def authLine (s : List UInt8) : List UInt8 := sp [nAuth, s] ++ [13, 10]

/-- A line of one constant word. -/
theorem write_one (T : Nat) (rem : List ByteArray) (out nm : List UInt8) (fds : Bool) (cs : Array Value) (fr : Nat × Nat) (n cc c : Nat) (hD : Door P w T rem out fds) (hP : Lt P w) (hn : nm.length = n) (hcs : cs = (Lib.byteCells nm).toArray) (hlim : nm.length ≤ 1000) (hout : out.length ≤ 100000000) :
    Calls Tryz.prog 49 #[.iface 59 (.pointer (some ⟨T, 0, none⟩)), .slice (some ⟨w.heap.size + 1, 0, none⟩) 1 c] ((w.alloc (.cells cs 5 fr)).alloc (.cells #[.slice (some ⟨w.heap.size, 0, none⟩) n cc] 35)) fun e w' => e = .returned .nilIface ∧ Door P w' T rem (out ++ (nm ++ [13, 10])) fds ∧ Fix P w w' := by
  have hb : Below w.heap.size w ((w.alloc (.cells cs 5 fr)).alloc (.cells #[.slice (some ⟨w.heap.size, 0, none⟩) n cc] 35)) := ((Below.refl _ w).alloc (Nat.le_refl _) _).alloc (by simp) _
  have hs1 : (w.alloc (.cells cs 5 fr)).heap.size = w.heap.size + 1 := by simp
  have h1 : ((w.alloc (.cells cs 5 fr)).alloc (.cells #[.slice (some ⟨w.heap.size, 0, none⟩) n cc] 35)).heap[w.heap.size]? = some (.cells cs 5 fr) := by
    rw [Below.heap_alloc _ _ _ (by rw [hs1]; omega)]
    exact heap_alloc_new w _
  have h2 := heap_alloc_new (w.alloc (.cells cs 5 fr)) (.cells #[.slice (some ⟨w.heap.size, 0, none⟩) n cc] 35)
  rw [hs1] at h2
  have hrw : RW (fun k => k = w.heap.size ∨ k = w.heap.size + 1) ((w.alloc (.cells cs 5 fr)).alloc (.cells #[.slice (some ⟨w.heap.size, 0, none⟩) n cc] 35)) (some ⟨w.heap.size + 1, 0, none⟩) [nm] :=
    ⟨by simp, fun j hj => by
      have : j = 0 := by simp at hj; omega
      subst this
      refine ⟨_, _, some ⟨w.heap.size, 0, none⟩, cc, rfl, .inr rfl, ?_, RB.ofBlock h1 (.inl rfl) (by show nm.length ≤ _; omega) fun j hj => by rw [Nat.zero_add]; exact cells_of nm cs hcs j hj⟩
      rw [Lib.cell_of_heap h2]
      simp [hn]⟩
  refine (authWriteLine_calls T rem out fds (some ⟨w.heap.size + 1, 0, none⟩) 1 c [nm] (hD.below hb) (fun k hk => Nat.lt_of_lt_of_le (hP k hk) hb.size) hrw (fun k hk => ?_) rfl (by simp [total]; omega) hout).mono fun e w' h => ⟨h.1, ?_, (Fix.ofBelow hb hP).trans h.2.2⟩
  · have := (Array.getElem?_eq_some_iff.1 h2).1
    rcases hk with rfl | rfl <;> omega
  · exact h.2.1

/-- A line of a constant word and a word that is read. -/
theorem write_two (T : Nat) (rem : List ByteArray) (out nm l : List UInt8) (fds : Bool) (cs : Array Value) (fr : Nat × Nat) (n cc c : Nat) (A : Option Addr) (c2 : Nat) (hD : Door P w T rem out fds) (hP : Lt P w) (hl : RB P w A l) (hn : nm.length = n) (hcs : cs = (Lib.byteCells nm).toArray) (hlim : nm.length ≤ 1000) (hlim2 : l.length ≤ 100000) (hout : out.length ≤ 100000000) :
    Calls Tryz.prog 49 #[.iface 59 (.pointer (some ⟨T, 0, none⟩)), .slice (some ⟨w.heap.size + 1, 0, none⟩) 2 c] ((w.alloc (.cells cs 5 fr)).alloc (.cells #[.slice (some ⟨w.heap.size, 0, none⟩) n cc, .slice A l.length c2] 35)) fun e w' => e = .returned .nilIface ∧ Door P w' T rem (out ++ (sp [nm, l] ++ [13, 10])) fds ∧ Fix P w w' := by
  have hb : Below w.heap.size w ((w.alloc (.cells cs 5 fr)).alloc (.cells #[.slice (some ⟨w.heap.size, 0, none⟩) n cc, .slice A l.length c2] 35)) := ((Below.refl _ w).alloc (Nat.le_refl _) _).alloc (by simp) _
  have hs1 : (w.alloc (.cells cs 5 fr)).heap.size = w.heap.size + 1 := by simp
  have h1 : ((w.alloc (.cells cs 5 fr)).alloc (.cells #[.slice (some ⟨w.heap.size, 0, none⟩) n cc, .slice A l.length c2] 35)).heap[w.heap.size]? = some (.cells cs 5 fr) := by
    rw [Below.heap_alloc _ _ _ (by rw [hs1]; omega)]
    exact heap_alloc_new w _
  have h2 := heap_alloc_new (w.alloc (.cells cs 5 fr)) (.cells #[.slice (some ⟨w.heap.size, 0, none⟩) n cc, .slice A l.length c2] 35)
  rw [hs1] at h2
  have hlb : RB P ((w.alloc (.cells cs 5 fr)).alloc (.cells #[.slice (some ⟨w.heap.size, 0, none⟩) n cc, .slice A l.length c2] 35)) A l := hl.fix (Fix.ofBelow hb hP)
  have hrw : RW (fun k => P k ∨ k = w.heap.size ∨ k = w.heap.size + 1) ((w.alloc (.cells cs 5 fr)).alloc (.cells #[.slice (some ⟨w.heap.size, 0, none⟩) n cc, .slice A l.length c2] 35)) (some ⟨w.heap.size + 1, 0, none⟩) [nm, l] :=
    ⟨by simp, fun j hj => by
      rcases j with _ | _ | j
      · refine ⟨_, _, some ⟨w.heap.size, 0, none⟩, cc, rfl, .inr (.inr rfl), ?_, RB.ofBlock h1 (.inr (.inl rfl)) (by show nm.length ≤ _; omega) fun j hj => by rw [Nat.zero_add]; exact cells_of nm cs hcs j hj⟩
        rw [Lib.cell_of_heap h2]
        simp [hn]
      · refine ⟨_, _, A, c2, rfl, .inr (.inr rfl), ?_, hlb.mono fun k hk => .inl hk⟩
        rw [Lib.cell_of_heap h2]
        simp
      · simp at hj; omega⟩
  refine (authWriteLine_calls T rem out fds (some ⟨w.heap.size + 1, 0, none⟩) 2 c [nm, l] (hD.below hb) (fun k hk => Nat.lt_of_lt_of_le (hP k hk) hb.size) hrw (fun k hk => ?_) rfl (by simp [total]; omega) hout).mono fun e w' h => ⟨h.1, h.2.1, (Fix.ofBelow hb hP).trans h.2.2⟩
  have := (Array.getElem?_eq_some_iff.1 h2).1
  rcases hk with hk | rfl | rfl
  · have := hP k hk; omega
  · omega
  · omega

/-- What a mechanism offers: its name; whether it waits for OK (0) or for data (1). -/
def Offers (P : Nat → Prop) (w : World) (mv : Value) (nm : List UInt8) (st : Int) : Prop :=
  (∃ u : ByteArray, mv = .iface 157 (.agg #[.string u]) ∧ u.size ≤ 1000000 ∧ nm = nExternal ∧ st = 0) ∨
  (∃ b, mv = .iface 158 (.pointer (some ⟨b, 0, none⟩)) ∧ nm = nAnonymous ∧ st = 0) ∨
  ∃ (m : Nat) (k f : Int) (name : ByteArray) (av : Value), mv = .iface 85 (.pointer (some ⟨m, 0, none⟩)) ∧ P m ∧ w.heap[m]? = some (.cells #[.int .u8 k, .string name, .int .u8 f, av, .int .i64 0] 87 (0, 0)) ∧ name.size ≤ 1000000 ∧ (f = 0 ∨ f = 1) ∧ nm = name.data.toList ∧ st = f
theorem Offers.fix {mv : Value} {nm : List UInt8} {st : Int} (h : Offers P w mv nm st) (hf : Fix P w w1) : Offers P w1 mv nm st := by
  rcases h with h | h | ⟨m, k, f, name, av, h1, h2, h3, h4⟩
  · exact .inl h
  · exact .inr (.inl h)
  · exact .inr (.inr ⟨m, k, f, name, av, h1, h2, (hf.block m h2).trans h3, h4⟩)
theorem Offers.mono {mv : Value} {nm : List UInt8} {st : Int} (h : Offers P w mv nm st) (hD : ∀ k, P k → D k) : Offers D w mv nm st := by
  rcases h with h | h | ⟨m, k, f, name, av, h1, h2, h3⟩
  · exact .inl h
  · exact .inr (.inl h)
  · exact .inr (.inr ⟨m, k, f, name, av, h1, hD _ h2, h3⟩)
theorem Offers.st {mv : Value} {nm : List UInt8} {st : Int} (h : Offers P w mv nm st) : st = 0 ∨ st = 1 := by
  rcases h with ⟨_, _, _, _, h⟩ | ⟨_, _, _, h⟩ | ⟨m, k, f, name, av, _, _, _, _, hf, _, rfl⟩
  · exact .inl h
  · exact .inl h
  · exact hf
end Go.Proofs.YtkmdjpinpjcndaaGreatDoor

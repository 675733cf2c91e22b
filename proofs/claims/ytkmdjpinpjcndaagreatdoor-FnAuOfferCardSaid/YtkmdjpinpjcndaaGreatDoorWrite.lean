/-
  The peer's door: what the peer will say, what was said to it; a write.
-/
import Derived.Test.YtkmdjpinpjcndaaGreatDoorPlain
import Derived.Handy
import Derived.RegionTactic
import Derived.Deep.QuietTactic
namespace Go.Proofs.YtkmdjpinpjcndaaGreatDoor
open Go.RowKit Go.Proofs.YtkmdjpinpjcndaaGreatDoorW.PrintWords

/-- The operation is a builtin over these places. -/
theorem gate_builtin {P : Program} {ops : Array Oper} {rest : List Oper} {o : Oper} {a : Act} {Q : Exit → Act → World → Prop} {W : World} {b : Builtin} {xs : Array Operand} {ts : Array TypeId} (_ho : o.op = .call { callee := .builtin b, args := xs, argTypes := ts }) (h : wpList P ops Q (o :: rest) a W) : wpList P ops Q (o :: rest) a W := h

/-- append, to a slice that can be added to, at a walk's operation. -/
theorem append_buf {P : Nat → Prop} {w : World} {Pr : Program} {ops : Array Oper} {rest : List Oper} {o : Oper} {act : Act} {Q : Exit → Act → World → Prop} (hgd : o.guard = none) (s x : Operand) (t e : TypeId) (z : Value) (bytes : Nat)
    (ho : o.op = .call { callee := .builtin .append, args := #[s, x], argTypes := #[t, t] })
    (ht : Pr.underlying t = some (.slice e)) (hinfo : (Pr.info? e).map (fun i => (i.zero, i.size, i.bytes)) = some (some z, 1, bytes)) (hzs : z.cells.size = 1) (hb0 : 0 < bytes)
    (v : Value) (xs : List Value) (a : Addr) (m c : Nat) (ys : List Value) (hs : act.eval s = v) (hx : act.eval x = .slice (some a) m c) (hb : Buf P w e v xs) (hl : ys.length = m) (hys : ∀ j u, ys[j]? = some u → w.cell? (a.add j) = some u) (h1 : ∀ u ∈ ys, u.oneCell' = true) (hP : Lt P w) (hbytes : (xs.length + m) * bytes ≤ 140737488355328)
    (h : ∀ A1 n1 c1 w1, Buf P w1 e (.slice A1 n1 c1) (xs ++ ys) → w.grownBy w1 v.ownBlock → ((Value.slice A1 n1 c1).ownBlock = v.ownBlock ∨ ∃ g, (Value.slice A1 n1 c1).ownBlock = some g ∧ w.heap.size ≤ g) → wpList Pr ops Q rest (act.put o.dst (.slice A1 n1 c1)) w1) :
    wpList Pr ops Q (o :: rest) act w := by
  obtain ⟨v1, w1, hr, hown, hg, hat⟩ := run_append_buf (Pr := Pr) t o.type e z bytes ht hinfo hzs hb0 v xs hb a m c ys hl hys h1 hP hbytes
  refine wpList_plain hgd fun K hK => ?_
  unfold Oper.wp execOp
  simp only [ho, resolve, invoke, builtin, Sem.run_bind, Sem.run_pure, Result.andThen_ok, List.map_toArray, List.map_cons, List.map_nil, hs, hx, hr]
  obtain ⟨A1, c1, rfl⟩ := hown.form
  exact hK _ _ (h A1 _ c1 w1 hown hg hat)

theorem Buf.ne {P : Nat → Prop} {w : World} {e t : TypeId} {v : Value} {xs : List Value} {g : Nat} {cs : Array Value} (h : Buf P w e v xs) (hh : w.heap[g]? = some (.cells cs t (0, 0))) (hne : e ≠ t) : some g ≠ v.ownBlock := fun he => by
  obtain ⟨_, cs', hh'⟩ := h.block g he.symm
  rw [hh] at hh'
  injection hh' with hh'
  injection hh' with _ ht
  exact hne ht.symm

/-- The peer's door in block T: what the peer will say, what was said to it. -/
def Door (P : Nat → Prop) (w : World) (T : Nat) (rem : List ByteArray) (out : List UInt8) (fds : Bool) : Prop :=
  ∃ pv rd ov, ¬ P T ∧ w.heap[T]? = some (.cells #[pv, .int .i64 rd, ov, .bool fds, .bool false] 73 (0, 0)) ∧ (∃ es : List ByteArray, (es = [] ∨ es = [⟨#[]⟩]) ∧ Buf P w 9 pv (pw_strs (es ++ rem))) ∧ Buf P w 5 ov (Lib.byteCells out)
variable {P D : Nat → Prop} {w w1 w2 : World}
theorem Door.lt {T : Nat} {rem : List ByteArray} {out : List UInt8} {fds : Bool} (h : Door P w T rem out fds) : T < w.heap.size := by
  obtain ⟨pv, rd, ov, _, hh, _⟩ := h
  exact (Array.getElem?_eq_some_iff.1 hh).1
theorem Door.mono {T : Nat} {rem : List ByteArray} {out : List UInt8} {fds : Bool} (h : Door P w T rem out fds) (hD : ∀ g, D g → P g) : Door D w T rem out fds := by
  obtain ⟨pv, rd, ov, hT, hh, ⟨es, he, hb⟩, ho⟩ := h
  exact ⟨pv, rd, ov, fun h => hT (hD _ h), hh, ⟨es, he, hb.mono fun g hg _ => hD g hg⟩, ho.mono fun g hg _ => hD g hg⟩
/-- What is not protected stands. -/
theorem Door.stays {T : Nat} {rem : List ByteArray} {out : List UInt8} {fds : Bool} (h : Door P w T rem out fds) (hb : ∀ g, ¬ P g → g < w.heap.size → w1.heap[g]? = w.heap[g]?) : Door P w1 T rem out fds := by
  have hlt := h.lt
  obtain ⟨pv, rd, ov, hT, hh, ⟨es, he, hp⟩, ho⟩ := h
  exact ⟨pv, rd, ov, hT, by rw [hb T hT hlt]; exact hh, ⟨es, he, hp.stays fun g hg => hb g (hp.block g hg).1 (hp.lt g hg)⟩, ho.stays fun g hg => hb g (ho.block g hg).1 (ho.lt g hg)⟩
theorem Door.alloc {T : Nat} {rem : List ByteArray} {out : List UInt8} {fds : Bool} (h : Door P w T rem out fds) (o : Obj) : Door P (w.alloc o) T rem out fds := h.stays fun g _ hg => Below.heap_alloc w o g hg
theorem Door.below {T : Nat} {rem : List ByteArray} {out : List UInt8} {fds : Bool} (h : Door P w T rem out fds) (hb : Below w.heap.size w w1) : Door P w1 T rem out fds := h.stays fun g _ hg => hb.block g hg

theorem info5 : (Tryz.prog.info? 5).map (fun i => (i.zero, i.size, i.bytes)) = some (some (.int .u8 0), 1, 1) := by kernel_rfl
theorem info9 : (Tryz.prog.info? 9).map (fun i => (i.zero, i.size, i.bytes)) = some (some (.string ⟨#[]⟩), 1, 16) := by kernel_rfl
theorem info35 : (Tryz.prog.info? 35).map (fun i => (i.zero, i.size, i.bytes)) = some (some (.slice none 0 0), 1, 24) := by kernel_rfl
theorem makeZero : ∀ W : World, (Instr.makeSlice 35 (.int .i64 0) (.int .i64 0)).run Tryz.prog W = .ok (.slice (some ⟨W.heap.size, 0, none⟩) 0 0) (W.alloc (.cells (madeCells #[.int .u8 0] 0) 5)) :=
  print_make (P := Tryz.prog) 35 5 .u8 1 Tryz.underlying35 info5 (by decide) 0 (by decide)

theorem byteCells_one (l : List UInt8) : ∀ u ∈ Lib.byteCells l, u.oneCell' = true := by
  intro u hu
  simp only [Lib.byteCells, List.mem_map] at hu
  obtain ⟨_, _, rfl⟩ := hu
  rfl
theorem byteCells_append (l m : List UInt8) : Lib.byteCells (l ++ m) = Lib.byteCells l ++ Lib.byteCells m := by simp [Lib.byteCells]
theorem reads_cells {a : Addr} {l : List UInt8} (h : ReadsInt w .u8 (some a) l.length (ints l)) : ∀ j u, (Lib.byteCells l)[j]? = some u → w.cell? (a.add j) = some u := fun j u hu => by
  obtain ⟨hj, rfl⟩ := List.getElem?_eq_some_iff.1 hu
  rw [Lib.byteCells_length] at hj
  obtain ⟨ad, e, hc⟩ := h.2.2 (by omega)
  injection e with e
  subst e
  rw [hc j hj, ints_getD l j hj]
  simp [Lib.byteCells]

set_option maxRecDepth 100000 in
set_option maxHeartbeats 1000000 in
theorem Write_calls (T : Nat) (rem : List ByteArray) (out l : List UInt8) (fds : Bool) (a : Addr) (c : Nat) (hD : Door P w T rem out fds) (hP : Lt P w) (hr : ReadsInt w .u8 (some a) l.length (ints l)) (hlim : out.length + l.length ≤ 1000000000) :
    Calls Tryz.prog 81 #[.pointer (some ⟨T, 0, none⟩), .slice (some a) l.length c] w fun e w' => e = .returned (.tuple #[.int .i64 l.length, .nilIface]) ∧ Door P w' T rem (out ++ l) fds ∧ Fix P w w' := by
  obtain ⟨pv, rd, ov, hT, hh, hp, ho⟩ := hD
  have c4 : w.cell? ⟨T, 4, none⟩ = some (.bool false) := by rw [Lib.cell_of_heap hh]; rfl
  have c2 : w.cell? ⟨T, 2, none⟩ = some ov := by rw [Lib.cell_of_heap hh]; rfl
  have HH := Aside0.mk hh
  have HP := Aside0.mk hp
  have HO := Aside0.mk ho
  have HT := Aside0.mk hT
  have HL := Aside0.mk hP
  have HR := Aside0.mk hr
  have HLIM := Aside0.mk hlim
  clear hh hp ho hT hP hr hlim
  go_enter Tryz.func81, Tryz.ntmps81
  go_wp2_with (first
    | ((with_reducible refine gate_builtin (b := .append) (xs := #[.tmp 15, .tmp 16]) rfl ?_); at_builtin; refine append_buf (P := P) rfl (.tmp 15) (.tmp 16) 35 5 (.int .u8 0) 1 rfl Tryz.underlying35 info5 rfl (by decide) ov (Lib.byteCells out) a l.length c (Lib.byteCells l) rfl rfl HO.out (Lib.byteCells_length l) (reads_cells HR.out) (byteCells_one _) HL.out ?r2 ?_; (case r2 => have := HLIM.out; rw [Lib.byteCells_length]; omega); intro A1 n1 c1 w1 hb hg hat; have HB1 := Aside0.mk hb; have HG1 := Aside0.mk hg; have HA1 := Aside0.mk hat; clear hb hg hat; have HH1 := Aside0.mk (blk_grown HH.out HG1.out (HO.out.ne HH.out (by decide))); have d2 := blk_cell HH1.out 2; have e2 := Lib.frozen_of_heap HH1.out 2))
  go_ret2
  have hat := HA1.out
  have hsz : w.heap.size ≤ w1.heap.size := HG1.out.size
  refine ⟨rfl, ⟨pv, rd, _, HT.out, heap_setCell_same w1 T 2 _ 73 _ HH1.out, ?_, ?_⟩, ?_⟩
  · obtain ⟨es, he, hb⟩ := HP.out
    exact ⟨es, he, hb.stays fun g hg => by
      have hne : g ≠ T := fun e => hb.ne HH.out (by decide) (e ▸ hg.symm)
      rw [Below.heap_setCell _ _ _ _ hne]
      refine HG1.out.block g (hb.lt g hg) fun e => ?_
      obtain ⟨_, cs, h1⟩ := hb.block g hg
      exact HO.out.ne h1 (by decide) e⟩
  · rw [byteCells_append]
    exact HB1.out.stays fun g hg => Below.heap_setCell _ _ _ _ (fun e => HB1.out.ne HH1.out (by decide) (by rw [hg, e]))
  · exact (Fix.grown HL.out HG1.out fun k hk => (HO.out.block k hk).1).trans (Fix.setCell HT.out _)
end Go.Proofs.YtkmdjpinpjcndaaGreatDoor

/-
  What the peer says, read: one piece a read.
-/
import Derived.Test.YtkmdjpinpjcndaaGreatDoorWrite
import Derived.Lib.LazyBuf
import Derived.Deep.RegionHeld3
import Derived.Deep.AppendLies
namespace Go.Proofs.YtkmdjpinpjcndaaGreatDoor
open Go.RowKit Go.Proofs.YtkmdjpinpjcndaaGreatDoorW.PrintWords
variable {P D : Nat → Prop} {w w1 w2 : World}

/-- A cut of a slice at an address. -/
theorem cut_at {Pr : Program} (t e : TypeId) {i : TypeInfo} (ht : Pr.underlying t = some (.slice e)) (hi : Pr.info? e = some i) (hsz : i.size = 1) (g o n c m : Nat) (hm : m ≤ n) :
    ∃ o', (∀ W : World, (Instr.slice t (.slice (some ⟨g, o, none⟩) n c) (some (.int .i64 (m : Int))) none none).run Pr W = .ok (.slice (some ⟨g, o', none⟩) (n - m) (c - m)) W) ∧ (o' = o + m ∨ (c = m ∧ o' = o)) := by
  have hel : Pr.elem t = e := by simp [Program.elem, ht]
  have hu : Pr.underlying t = some (.slice (Pr.elem t)) := by rw [hel]; exact ht
  by_cases h : c = m
  · refine ⟨o, fun W => ?_, .inr ⟨h, rfl⟩⟩
    rw [run_slice_l W t _ n c hu .i64 (m : Int) (Int.natCast_nonneg _) (by omega), hel]
    simp [sizeOf, typeInfo, hi, hsz, sliced, Result.andThen, h]
  · refine ⟨o + m, fun W => ?_, .inl rfl⟩
    rw [run_slice_l W t _ n c hu .i64 (m : Int) (Int.natCast_nonneg _) (by omega), hel]
    simp [sizeOf, typeInfo, hi, hsz, sliced, Result.andThen, h, add_at]
theorem Buf.drop {e : TypeId} {g o o' n c m : Nat} {xs : List Value} (h : Buf P w e (.slice (some ⟨g, o, none⟩) n c) xs) (ho : o' = o + m ∨ (c = m ∧ o' = o)) (hm : m ≤ n) : Buf P w e (.slice (some ⟨g, o', none⟩) (n - m) (c - m)) (xs.drop m) := by
  rcases h with ⟨h, _⟩ | ⟨g', o1, cap, cs, hv, hn, hh, h1, h2, h3, h4⟩
  · cases h
  · injection hv with e1 e2 e3
    injection e1 with e1
    injection e1 with e1 e4
    subst e1 e2 e3 e4
    refine .inr ⟨g, o', c - m, cs, by rw [List.length_drop], hn, hh, by rw [List.length_drop]; omega, by omega, by omega, fun j hj => ?_⟩
    rw [List.length_drop] at hj
    rcases ho with rfl | ⟨rfl, rfl⟩
    · rw [Nat.add_assoc, h4 (m + j) (by omega)]
      simp
    · omega
theorem Buf.head {e : TypeId} {v x : Value} {xs : List Value} (h : Buf P w e v (x :: xs)) : ∃ g o c, v = .slice (some ⟨g, o, none⟩) (xs.length + 1) c ∧ w.cell? ⟨g, o, none⟩ = some x ∧ ¬ P g := by
  rcases h with ⟨_, h⟩ | ⟨g', o1, cap, cs, hv, hn, hh, h1, h2, h3, h4⟩
  · cases h
  · refine ⟨g', o1, cap, by simpa using hv, ?_, hn⟩
    have := h4 0 (by simp)
    rw [Lib.cell_of_heap hh]
    simpa using this
theorem Buf.headS {v : Value} {s : ByteArray} {l : List ByteArray} (h : Buf P w 9 v (pw_strs (s :: l))) : ∃ g o c, v = .slice (some ⟨g, o, none⟩) (l.length + 1) c ∧ w.cell? ⟨g, o, none⟩ = some (.string s) ∧ ¬ P g := by
  obtain ⟨g, o, c, e, r⟩ := Buf.head (x := .string s) (xs := pw_strs l) h
  exact ⟨g, o, c, by rw [e]; simp [pw_strs], r⟩
theorem Buf.cells {e : TypeId} {A : Addr} {n c : Nat} {xs : List Value} (h : Buf P w e (.slice (some A) n c) xs) : ∀ j u, xs[j]? = some u → w.cell? (A.add j) = some u := fun j u hu => by
  rcases h with ⟨h, _⟩ | ⟨g', o1, cap, cs, hv, hn, hh, h1, h2, h3, h4⟩
  · cases h
  · injection hv with e1 e2 e3
    injection e1 with e1
    subst e1
    obtain ⟨hj, rfl⟩ := List.getElem?_eq_some_iff.1 hu
    rw [add_at, Lib.cell_of_heap hh, h4 j hj]
theorem strs_one (l : List ByteArray) : ∀ u ∈ pw_strs l, u.oneCell' = true := fun u hu => by
  obtain ⟨_, _, rfl⟩ := List.mem_map.1 hu
  rfl
theorem pw_strs_cons (s : ByteArray) (l : List ByteArray) : pw_strs (s :: l) = .string s :: pw_strs l := rfl
theorem pw_strs_length (l : List ByteArray) : (pw_strs l).length = l.length := by simp [pw_strs]

/-- append, at a step of a region that draws. -/
theorem step_append_buf {Pr : Program} {ops : Array Oper} {o : Oper} {act : Act} {K : Act → World → Prop} {Q : Exit → Act → World → Prop} {E : Prop} (hgd : o.guard = none) (s x : Operand) (t e : TypeId) (z : Value) (bytes : Nat)
    (ho : o.op = .call { callee := .builtin .append, args := #[s, x], argTypes := #[t, t] })
    (ht : Pr.underlying t = some (.slice e)) (hinfo : (Pr.info? e).map (fun i => (i.zero, i.size, i.bytes)) = some (some z, 1, bytes)) (hzs : z.cells.size = 1) (hb0 : 0 < bytes)
    (v : Value) (xs : List Value) (a : Addr) (m c : Nat) (ys : List Value) (hs : act.eval s = v) (hx : act.eval x = .slice (some a) m c) (hb : Buf P w e v xs) (hl : ys.length = m) (hys : ∀ j u, ys[j]? = some u → w.cell? (a.add j) = some u) (h1 : ∀ u ∈ ys, u.oneCell' = true) (hP : Lt P w) (hbytes : (xs.length + m) * bytes ≤ 140737488355328)
    (h : ∀ A1 n1 c1 w1, Buf P w1 e (.slice A1 n1 c1) (xs ++ ys) → w.grownBy w1 v.ownBlock → ((Value.slice A1 n1 c1).ownBlock = v.ownBlock ∨ ∃ g, (Value.slice A1 n1 c1).ownBlock = some g ∧ w.heap.size ≤ g) → K (act.put o.dst (.slice A1 n1 c1)) w1) :
    if Region.wanted o (yielded ops act.tmps) = true then Oper.wp Pr o act w K Q else E := by
  have hw : Region.wanted o (yielded ops act.tmps) = true := by simp [Region.wanted, hgd]
  rw [if_pos hw]
  obtain ⟨v1, w1, hr, hown, hg, hat⟩ := run_append_buf (Pr := Pr) t o.type e z bytes ht hinfo hzs hb0 v xs hb a m c ys hl hys h1 hP hbytes
  unfold Oper.wp execOp
  simp only [ho, resolve, invoke, builtin, Sem.run_bind, Sem.run_pure, Result.andThen_ok, List.map_toArray, List.map_cons, List.map_nil, hs, hx, hr]
  obtain ⟨A1, c1, rfl⟩ := hown.form
  exact h A1 _ c1 w1 hown hg hat

/-- copy, where its run is known. -/
theorem copy_run {Pr : Program} {ops : Array Oper} {rest : List Oper} {o : Oper} {a : Act} {Q : Exit → Act → World → Prop} (hgd : o.guard = none) (d s : Operand) (t t' : TypeId)
    (ho : o.op = .call { callee := .builtin .copy, args := #[d, s], argTypes := #[t, t'] }) (v u : Value) (hd : a.eval d = v) (hs : a.eval s = u) {v' : Value} {w' : World}
    (hr : (Builtin.copy_ #[t, t'] o.type #[v, u]).run Pr w = .ok v' w') (h : wpList Pr ops Q rest (a.put o.dst v') w') : wpList Pr ops Q (o :: rest) a w := by
  refine wpList_plain hgd fun K hK => ?_
  unfold Oper.wp execOp
  simp only [ho, resolve, invoke, builtin, Sem.run_bind, Sem.run_pure, Result.andThen_ok, List.map_toArray, List.map_cons, List.map_nil, hd, hs, hr]
  exact hK _ _ h

theorem str_ne (s : ByteArray) (h : 0 < s.size) : s ≠ ⟨#[]⟩ := by
  intro e
  subst e
  exact absurd h (by decide)

/-- A piece is copied. -/
theorem copy_piece (bb : Nat) (ty : TypeId) (s : ByteArray) (cs : Array Value) (hb : w.heap[bb]? = some (.cells cs 5 (0, 0))) (hcs : cs.size = 4096) (hs : s.size ≤ 4096) :
    ∃ w1, (Builtin.copy_ #[35, 9] ty #[.slice (some ⟨bb, 0, none⟩) 4096 4096, .string s]).run Tryz.prog w = .ok (.int .i64 s.size) w1 ∧ w.grownBy w1 (some bb) ∧ w1.heap.size = w.heap.size ∧
      ∃ cs', w1.heap[bb]? = some (.cells cs' 5 (0, 0)) ∧ ∀ (j : Nat) (h : j < s.data.toList.length), cs'[j]? = some (.int .u8 (s.data.toList[j].toNat : Int)) := by
  have hrun := run_copy_string (P := Tryz.prog) w 35 9 ty 5 bb 0 4096 4096 s Tryz.underlying35 Tryz.sizeOf5 hs (fun j hj => by rw [Lib.cell_of_heap hb]; simp; omega) (fun j hj => by simp [World.frozen?, hb])
  obtain ⟨cs', e1, e2, e3, e4⟩ := setCells_heap bb (s.data.toList.map fun x => Value.int .u8 (x.toNat : Int)) 0 w cs 5 hb (by rw [List.length_map, data_length]; omega)
  refine ⟨_, hrun, setCells_grown bb _ 0 w, ?_, cs', e1, fun j hj => ?_⟩
  · have : ∀ (vs : List Value) (o : Nat) (w : World), (w.setCells bb o vs).heap.size = w.heap.size := by
      intro vs
      induction vs with
      | nil => intro o w; rfl
      | cons v r ih => intro o w; rw [World.setCells, ih]; simp [World.setCell]
    exact this _ _ _
  · have := e3 j (by simpa using hj)
    rw [Nat.zero_add] at this
    rw [this]
    simp
theorem cut22 (g o n c : Nat) (hm : 1 ≤ n) : ∃ o', (∀ W : World, (Instr.slice 22 (.slice (some ⟨g, o, none⟩) n c) (some (.int .i64 1)) none none).run Tryz.prog W = .ok (.slice (some ⟨g, o', none⟩) (n - 1) (c - 1)) W) ∧ (o' = o + 1 ∨ (c = 1 ∧ o' = o)) := by
  obtain ⟨i, hi, hz⟩ := Option.map_eq_some_iff.1 info9
  simp only [Prod.mk.injEq] at hz
  exact cut_at (Pr := Tryz.prog) 22 9 Tryz.underlying22 hi hz.2.1 g o n c 1 hm
theorem extract_end (s : ByteArray) : s.extract s.size s.size = ⟨#[]⟩ := by
  apply ByteArray.ext
  rw [ByteArray.data_extract]
  simp

theorem read_done (T bb : Nat) (A1 : Option Addr) (n1 c1 : Nat) (x rd rd2 : Int) (pv pv2 ov : Value) (rem : List ByteArray) (out : List UInt8) (fds : Bool) (cs' : Array Value) (o9 : Obj)
    (hT : ¬ (P T ∨ T = bb)) (h1 : w1.heap[T]? = some (.cells #[pv, .int .i64 rd, ov, .bool fds, .bool false] 73 (0, 0))) (ho : Buf (fun g => P g ∨ g = bb) w1 5 ov (Lib.byteCells out)) (hb2 : Buf (fun g => P g ∨ g = bb) w2 9 (.slice A1 n1 c1) ([.string ⟨#[]⟩] ++ pw_strs rem))
    (hg2 : (w1.drew.alloc o9).grownBy w2 (some w1.heap.size)) (hL : Lt (fun g => P g ∨ g = bb) w1) (hh2 : w2.heap[T]? = some (.cells #[pv2, .int .i64 rd2, ov, .bool fds, .bool false] 73 (0, 0))) (hbb : w1.heap[bb]? = some (.cells cs' 5 (0, 0))) :
    Door (fun g => P g ∨ g = bb) ((w2.setCell ⟨T, 0, none⟩ (.slice A1 n1 c1)).setCell ⟨T, 1, none⟩ (.int .i64 x)) T rem out fds ∧ Fix P w1 ((w2.setCell ⟨T, 0, none⟩ (.slice A1 n1 c1)).setCell ⟨T, 1, none⟩ (.int .i64 x)) ∧
      ((w2.setCell ⟨T, 0, none⟩ (.slice A1 n1 c1)).setCell ⟨T, 1, none⟩ (.int .i64 x)).heap[bb]? = some (.cells cs' 5 (0, 0)) := by
  have old : ∀ k, k < w1.heap.size → k ≠ T → ((w2.setCell ⟨T, 0, none⟩ (.slice A1 n1 c1)).setCell ⟨T, 1, none⟩ (.int .i64 x)).heap[k]? = w1.heap[k]? := fun k hk hne => by
    rw [Below.heap_setCell _ _ _ _ hne, Below.heap_setCell _ _ _ _ hne, hg2.block k (by simp [World.alloc]; exact Nat.lt_succ_of_lt hk) (fun e => by have := Option.some.inj e; omega)]
    exact Below.heap_alloc w1.drew o9 k hk
  refine ⟨⟨_, x, ov, hT, blk_put (blk_put hh2 0 _ rfl) 1 _ rfl, ⟨[⟨#[]⟩], .inr rfl, ?_⟩, ?_⟩, ⟨?_, ?_, ?_, ?_, ?_⟩, ?_⟩
  · refine Buf.stays (w := w2) hb2 fun k hk => ?_
    have hne : k ≠ T := fun e => hb2.ne hh2 (by decide) (by rw [hk, e])
    rw [Below.heap_setCell _ _ _ _ hne, Below.heap_setCell _ _ _ _ hne]
  · refine ho.stays fun k hk => old k (ho.lt k hk) fun e => ho.ne h1 (by decide) (by rw [hk, e])
  · exact hg2.os
  · exact hg2.tape
  · exact hg2.output
  · have := hg2.size
    simp only [World.setCell, Array.size_modify]
    simp [World.alloc] at this
    exact Nat.le_of_succ_le this
  · exact fun k hk => old k (hL k (.inl hk)) fun e => hT (.inl (e ▸ hk))
  · rw [old bb (hL bb (.inr rfl)) fun e => hT (.inr e.symm)]
    exact hbb

set_option maxRecDepth 100000 in
set_option maxHeartbeats 2000000 in
theorem Read82_calls (T bb : Nat) (s : ByteArray) (rem : List ByteArray) (out : List UInt8) (fds : Bool) (cs : Array Value)
    (hD : Door (fun g => P g ∨ g = bb) w T (s :: rem) out fds) (hP : Lt P w) (hb : w.heap[bb]? = some (.cells cs 5 (0, 0))) (hcs : cs.size = 4096) (hbP : ¬ P bb) (hs : 0 < s.size) (hs2 : s.size ≤ 4096) (hrem : rem.length ≤ 1000000) :
    Calls Tryz.prog 82 #[.pointer (some ⟨T, 0, none⟩), .slice (some ⟨bb, 0, none⟩) 4096 4096] w fun e w' => e = .returned (.tuple #[.int .i64 s.size, .nilIface]) ∧ Door (fun g => P g ∨ g = bb) w' T rem out fds ∧ Fix P w w' ∧
      ∃ cs', w'.heap[bb]? = some (.cells cs' 5 (0, 0)) ∧ ∀ (j : Nat) (h : j < s.data.toList.length), cs'[j]? = some (.int .u8 (s.data.toList[j].toNat : Int)) := by
  have HDO := Aside0.mk hD
  have HP := Aside0.mk hP
  have HB := Aside0.mk hb
  have HCS := Aside0.mk hcs
  have HBP := Aside0.mk hbP
  have HREM := Aside0.mk hrem
  have hne := str_ne s hs
  have hs3 : s.toList.isEmpty = false := by
    rw [List.isEmpty_eq_false_iff, ← List.length_pos_iff, Lib.toList_data, data_length]
    exact hs
  have HS := Aside0.mk (And.intro hs hs2)
  have hT : T < w.heap.size := hD.lt
  clear hD hP hb hcs hbP hs hs2 hrem
  go_enter Tryz.func82, Tryz.ntmps82
  go_wp2
  go_loopg [] 1 (fun q w' => ∃ es : List ByteArray, (es = [] ∨ es = [⟨#[]⟩]) ∧ Aside0 (es.length ≤ q) ∧ Aside0 (∃ pv rd ov, w'.heap[T]? = some (.cells #[pv, .int .i64 rd, ov, .bool fds, .bool false] 73 (0, 0)) ∧ Buf (fun g => P g ∨ g = bb) w' 9 pv (pw_strs (es ++ s :: rem)) ∧ Buf (fun g => P g ∨ g = bb) w' 5 ov (Lib.byteCells out)) ∧ Aside0 (w'.heap[bb]? = some (.cells cs 5 (0, 0))) ∧ Aside0 (Fix P w w'))
  case atStart =>
    obtain ⟨pv, rd, ov, _, hh, ⟨es, he, hp⟩, ho⟩ := HDO.out
    exact ⟨es, he, ⟨by rcases he with rfl | rfl <;> simp⟩, ⟨pv, rd, ov, hh, hp, ho⟩, HB, ⟨Fix.refl _ _⟩⟩
  case round =>
    obtain ⟨es, hes, HQ, HS1, HB1, HF1⟩ := hrel
    obtain ⟨pv, rd, ov, hh, hp, ho⟩ := HS1.out
    have HH := Aside0.mk hh
    have HO := Aside0.mk ho
    have HTP := Aside0.mk (show ¬ (P T ∨ T = bb) from HDO.out.choose_spec.choose_spec.choose_spec.1)
    have c0 := blk_cell hh 0
    have f0 := blk_frozen hh 0
    clear ho HS1
    rcases hes with rfl | rfl
    · have hp : Buf (fun g => P g ∨ g = bb) wr 9 pv (pw_strs (s :: rem)) := hp
      obtain ⟨g, o, c, rfl, hc, hg⟩ := hp.headS
      have HPV := Aside0.mk hp
      clear hh hp
      obtain ⟨o', kcut, ho'⟩ := cut22 g o (rem.length + 1) c (by omega)
      have HO' := Aside0.mk ho'
      clear ho'
      have kss := extract_end s
      obtain ⟨w1, hcopy, hgr, hsz, hcs'⟩ := copy_piece (w := wr) bb 3 s cs HB1.out HCS.out HS.out.2
      have HCP := Aside0.mk hcopy
      have HGR := Aside0.mk hgr
      have HC1 := Aside0.mk hcs'
      have HSZ := Aside0.mk hsz
      have HH1 := Aside0.mk (blk_grown HH.out HGR.out (fun e => HTP.out (.inr (Option.some.inj e))))
      have d0 := blk_cell HH1.out 0
      have d1 := blk_cell HH1.out 1
      have e0 := blk_frozen HH1.out 0
      have e1 := blk_frozen HH1.out 1
      have hcg : w1.cell? ⟨g, o, none⟩ = some (.string s) := HGR.out.cell hc (fun e => hg (.inr (Option.some.inj e)))
      have HLT := Aside0.mk (show Lt (fun g => P g ∨ g = bb) w1 from fun k hk => by
        rw [HSZ.out]
        rcases hk with hk | rfl
        · exact Nat.lt_of_lt_of_le (HP.out k hk) HF1.out.size
        · exact blk_lt HB1.out)
      have HPV1 := Aside0.mk (HPV.out.stays (w1 := w1) fun k hk => HGR.out.block k (HPV.out.lt k hk) (fun e => (HPV.out.block k hk).1 (.inr (Option.some.inj e))))
      have hb1 : (0 : Int) < (rem.length : Int) + 1 := by omega
      clear hcopy hgr hcs' hsz hg
      go_wp2_with (first
        | ((with_reducible refine gate_builtin (b := .copy) (xs := #[.tmp 40, .tmp 46]) rfl ?_); refine copy_run rfl (.tmp 40) (.tmp 46) 35 9 rfl _ _ rfl rfl HCP.out ?_; clear f0 c0 hc))
      clear hs3
      have hP2 : Lt (fun g => P g ∨ g = bb) (w1.drew.alloc (.cells #[.string ⟨#[]⟩] 9)) := fun k hk => by have := HLT.out k hk; simp [World.alloc]; exact Nat.lt_succ_of_lt this
      have HNL := Aside0.mk hP2
      have HNB := Aside0.mk (show Buf (fun g => P g ∨ g = bb) (w1.drew.alloc (.cells #[.string ⟨#[]⟩] 9)) 9 (.slice (some ⟨w1.heap.size, 0, none⟩) 1 1) [.string ⟨#[]⟩] from
        .inr ⟨_, 0, 1, #[.string ⟨#[]⟩], rfl, fun h => absurd (HLT.out _ h) (Nat.lt_irrefl _), heap_alloc_new w1.drew _, by simp, by simp [maxLen], by simp, fun j hj => by
          have : j = 0 := by simp at hj; omega
          subst this; rfl⟩)
      have HNC := Aside0.mk (show ∀ j u, (pw_strs rem)[j]? = some u → (w1.drew.alloc (.cells #[.string ⟨#[]⟩] 9)).cell? ((⟨g, o', none⟩ : Addr).add j) = some u from fun j u hu => by
        have hpb : Buf (fun g => P g ∨ g = bb) (w1.drew.alloc (.cells #[.string ⟨#[]⟩] 9)) 9 (.slice (some ⟨g, o', none⟩) rem.length (c - 1)) (pw_strs rem) :=
          ((HPV1.out.drop (m := 1) HO'.out (by omega) : Buf _ w1 9 (.slice (some ⟨g, o', none⟩) rem.length (c - 1)) (pw_strs rem))).stays fun k hk => Below.heap_alloc w1.drew _ k (HPV1.out.lt k hk)
        exact hpb.cells j u hu)
      have HNS := Aside0.mk (show (([.string ⟨#[]⟩] : List Value).length + rem.length) * 16 ≤ 140737488355328 by have := HREM.out; simp; omega)
      have HKT := Aside0.mk (show ∀ w2, (w1.drew.alloc (.cells #[.string ⟨#[]⟩] 9)).grownBy w2 (some w1.heap.size) → w2.heap[T]? = some (.cells #[.slice (some ⟨g, o, none⟩) (rem.length + 1) c, .int .i64 rd, ov, .bool fds, .bool false] 73 (0, 0)) from fun w2 hg2 => by
        have := blk_lt HH1.out
        rw [hg2.block T (by simp [World.alloc]; exact Nat.lt_succ_of_lt this) (fun e => by have := Option.some.inj e; omega), Below.heap_alloc w1.drew _ T this]
        exact HH1.out)
      have HKG := Aside0.mk (show ∀ w2, (w1.drew.alloc (.cells #[.string ⟨#[]⟩] 9)).grownBy w2 (some w1.heap.size) → w2.cell? ⟨g, o, none⟩ = some (.string s) from fun w2 hg2 => by
        have : g < w1.heap.size := World.block_lt_of_cell? w1 _ hcg
        rw [World.cell?_of_block (hg2.block g (by simp [World.alloc]; exact Nat.lt_succ_of_lt this) (fun e => by have := Option.some.inj e; omega)), World.cell?_of_block (Below.heap_alloc w1.drew _ g this)]
        exact hcg)
      have k0a : (w1.alloc (.cells #[.string ByteArray.empty] 9)).cell? ⟨T, 0, none⟩ = some (.slice (some ⟨g, o, none⟩) (rem.length + 1) c) := by
        rw [World.cell?_of_block (Below.heap_alloc w1 _ T (blk_lt HH1.out))]
        exact d0
      go_region_law
        ((refine step_append_buf (P := fun k => P k ∨ k = bb) (by rfl) _ _ _ 9 (.string ⟨#[]⟩) 16 (by rfl) Tryz.underlying22 info9 rfl (by decide) (.slice (some ⟨w1.heap.size, 0, none⟩) 1 1) [.string ⟨#[]⟩] ⟨g, o', none⟩ rem.length (c - 1) (pw_strs rem) (by rfl) (by rfl) HNB.out (pw_strs_length _) HNC.out (strs_one _) HNL.out HNS.out ?_; intro A1 n1 c1 w2 hb2 hg2 hat2; have HB2 := Aside0.mk hb2; have HG2 := Aside0.mk hg2; have HA2 := Aside0.mk hat2; clear hb2 hg2 hat2; have HH2 := Aside0.mk (HKT.out w2 HG2.out); have hkk1 := blk_cell HH2.out 0; have hkf1 := blk_frozen HH2.out 0; have hkk2 := HKG.out w2 HG2.out))
      all_goals (
        have HH3 := Aside0.mk (blk_put HH2.out 0 (.slice A1 n1 c1) rfl)
        have g1 := blk_cell HH3.out 1
        have g2 := blk_frozen HH3.out 1
        clear d0 d1 e0 e1 hcg k0a hkk1 hkk2 hkf1 kcut kss hb1
        go_wp2
        go_ret2)
      all_goals (
        obtain ⟨cs', hbb, hcs⟩ := HC1.out
        obtain ⟨r1, r2, r3⟩ := read_done (P := P) T bb A1 n1 c1 _ rd rd _ _ ov rem out fds cs' _ HTP.out HH1.out (HO.out.stays fun k hk => HGR.out.block k (HO.out.lt k hk) (fun e => (HO.out.block k hk).1 (.inr (Option.some.inj e)))) HB2.out HG2.out HLT.out HH2.out hbb
        exact ⟨rfl, r1, HF1.out.trans ((Fix.grown (fun k hk => Nat.lt_of_lt_of_le (HP.out k hk) HF1.out.size) HGR.out fun k hk => by injection hk with hk; rw [← hk]; exact HBP.out).trans r2), cs', r3, hcs⟩)
    · have hp : Buf (fun g => P g ∨ g = bb) wr 9 pv (pw_strs (⟨#[]⟩ :: s :: rem)) := hp
      obtain ⟨g, o, c, hv, hc, hg⟩ := hp.headS
      have hv : pv = .slice (some ⟨g, o, none⟩) (rem.length + 1 + 1) c := hv
      subst hv
      have HPV := Aside0.mk hp
      clear hh hp
      obtain ⟨o', kcut, ho'⟩ := cut22 g o (rem.length + 1 + 1) c (by omega)
      have HO' := Aside0.mk ho'
      clear ho'
      go_wp2
      go_roundg 0
      case measure => have := HQ.out; simp only [List.length_cons, List.length_nil] at this; omega
      case rel =>
        have hpb : Buf (fun g => P g ∨ g = bb) wr 9 (.slice (some ⟨g, o', none⟩) (rem.length + 1) (c - 1)) (pw_strs (s :: rem)) := HPV.out.drop (m := 1) HO'.out (by omega)
        refine ⟨[], .inl rfl, ⟨by simp⟩, ⟨_, _, _, heap_setCell_same wr T 0 _ 73 _ HH.out, ?_, ?_⟩, ⟨?_⟩, ⟨HF1.out.trans (Fix.setCell (fun h => HTP.out (.inl h)) _)⟩⟩
        · refine hpb.stays fun k hk => Below.heap_setCell _ _ _ _ fun e => hpb.ne HH.out (by decide) (by rw [hk, e])
        · exact HO.out.stays fun k hk => Below.heap_setCell _ _ _ _ fun e => HO.out.ne HH.out (by decide) (by rw [hk, e])
        · rw [Below.heap_setCell _ _ _ _ (fun e => HTP.out (.inr e.symm))]
          exact HB1.out
end Go.Proofs.YtkmdjpinpjcndaaGreatDoor

/-
  A line of the peer's, read through the reader of lines.
-/
import Derived.Test.YtkmdjpinpjcndaaGreatDoorRead
namespace Go.Proofs.YtkmdjpinpjcndaaGreatDoor
open Go.RowKit Go.Proofs.YtkmdjpinpjcndaaGreatDoorW.PrintWords
variable {P D : Nat → Prop} {w w1 w2 : World}

set_option maxRecDepth 100000 in
theorem Read78_calls (T bb : Nat) (s : ByteArray) (rem : List ByteArray) (out : List UInt8) (fds : Bool) (cs : Array Value)
    (hD : Door (fun g => P g ∨ g = bb) w T (s :: rem) out fds) (hP : Lt P w) (hb : w.heap[bb]? = some (.cells cs 5 (0, 0))) (hcs : cs.size = 4096) (hbP : ¬ P bb) (hs : 0 < s.size) (hs2 : s.size ≤ 4096) (hrem : rem.length ≤ 1000000) :
    Calls Tryz.prog 78 #[.pointer (some ⟨T, 0, none⟩), .slice (some ⟨bb, 0, none⟩) 4096 4096] w fun e w' => e = .returned (.tuple #[.int .i64 s.size, .nilIface]) ∧ Door (fun g => P g ∨ g = bb) w' T rem out fds ∧ Fix P w w' ∧
      ∃ cs', w'.heap[bb]? = some (.cells cs' 5 (0, 0)) ∧ ∀ (j : Nat) (h : j < s.data.toList.length), cs'[j]? = some (.int .u8 (s.data.toList[j].toNat : Int)) := by
  have c4 : w.cell? ⟨T, 4, none⟩ = some (.bool false) := by
    obtain ⟨pv, rd, ov, hT, hh, hp, ho⟩ := hD
    rw [Lib.cell_of_heap hh]; rfl
  have H := Aside0.mk (Read82_calls T bb s rem out fds cs hD hP hb hcs hbP hs hs2 hrem)
  clear hD hP hb hcs hbP hs hs2 hrem
  go_enter Tryz.func78, Tryz.ntmps78
  go_wp2_with (go_at_call 82; refine H.out.mono ?_)
  rintro e w' ⟨rfl, h1, h2, h3⟩
  have H1 := Aside0.mk h1
  have H2 := Aside0.mk h2
  have H3 := Aside0.mk h3
  clear h1 h2 h3
  go_wp2
  go_ret2
  exact ⟨rfl, H1.out, H2.out, H3.out⟩

/-- The reader of lines in block L over the door in block T, its buffer empty. -/
def Sta (P : Nat → Prop) (w : World) (T L : Nat) (rem : List ByteArray) (out : List UInt8) (fds : Bool) : Prop :=
  ∃ bv, ¬ P L ∧ w.heap[L]? = some (.cells #[.iface 59 (.pointer (some ⟨T, 0, none⟩)), bv] 164 (0, 0)) ∧ Buf P w 5 bv [] ∧ Door (fun g => P g ∨ g = L ∨ bv.ownBlock = some g) w T rem out fds

/-- More may be protected: what is not there yet. -/
theorem Door.more {T : Nat} {rem : List ByteArray} {out : List UInt8} {fds : Bool} (h : Door P w T rem out fds) (hD : ∀ g, D g → P g ∨ w.heap.size ≤ g) : Door D w T rem out fds := by
  have hlt := h.lt
  obtain ⟨pv, rd, ov, hT, hh, ⟨es, he, hb⟩, ho⟩ := h
  refine ⟨pv, rd, ov, fun h => ?_, hh, ⟨es, he, hb.mono fun g hg hv => ?_⟩, ho.mono fun g hg hv => ?_⟩
  · rcases hD _ h with h | h
    · exact hT h
    · omega
  · rcases hD g hg with h | h
    · exact h
    · exact absurd (hb.lt g hv) (Nat.not_lt.2 h)
  · rcases hD g hg with h | h
    · exact h
    · exact absurd (ho.lt g hv) (Nat.not_lt.2 h)

theorem Buf.some {e : TypeId} {A : Option Addr} {n c : Nat} {xs : List Value} (h : Buf P w e (.slice A n c) xs) (hx : 0 < xs.length) : ∃ g o, A = some ⟨g, o, none⟩ ∧ n = xs.length := by
  rcases h with ⟨_, rfl⟩ | ⟨g', o1, cap, cs, hv, _⟩
  · exact absurd hx (by simp)
  · injection hv with e1 e2 e3
    exact ⟨g', o1, e1, e2⟩
theorem byteCells_get (l : List UInt8) (j : Nat) (h : j < l.length) : (Lib.byteCells l)[j]? = Option.some (.int .u8 (l[j].toNat : Int)) := by
  unfold Lib.byteCells
  rw [List.getElem?_map, List.getElem?_eq_getElem h]
  rfl
theorem idx_empty {v : Value} (h : Buf P w 5 v []) : Calls Tryz.prog 59 #[v, .int .u8 10] w fun e w' => e = .returned (.int .i64 (-1)) ∧ w = w' := by
  rcases h with ⟨rfl, _⟩ | ⟨g, o, cap, cs, rfl, _⟩
  · exact (Tryz.bytes_IndexByte_nil 10 w).mono fun e w' h => ⟨h.1, h.2.symm⟩
  · exact (Tryz.bytes_IndexByte_at ⟨g, o, none⟩ 0 cap [] 10 w rfl (fun i hi => absurd hi (Nat.not_lt_zero _))).mono fun e w' h => ⟨h.1, h.2.symm⟩

theorem make4096 : ∃ cs : Array Value, cs.size = 4096 ∧ ∀ W : World, (Instr.makeSlice 35 (.int .i64 4096) (.int .i64 4096)).run Tryz.prog W = .ok (.slice (some ⟨W.heap.size, 0, none⟩) 4096 4096) (W.alloc (.cells cs 5)) :=
  ⟨madeCells #[.int .u8 0] 4096, by rw [size_madeCells], print_make (P := Tryz.prog) 35 5 .u8 1 Tryz.underlying35 info5 (by decide) 4096 (by decide)⟩

/-- Where the line's end is. -/
theorem index_end : ∀ l : List UInt8, (10 : UInt8) ∉ l → Lib.indexByte (l ++ [10]) 10 = l.length
  | [], _ => by simp [Lib.indexByte]
  | b :: l, h => by
    have ih := index_end l (fun hm => h (by simp [hm]))
    have hb : (b == 10) = false := by
      rw [beq_eq_false_iff_ne]
      exact fun e => h (by simp [e])
    rw [List.cons_append, Lib.indexByte, hb, ih]
    have : ((l.length : Int) == -1) = false := by rw [beq_eq_false_iff_ne]; omega
    rw [this]
    simp

set_option maxRecDepth 100000 in
set_option maxHeartbeats 4000000 in
theorem ReadBytes_calls (T L : Nat) (s : ByteArray) (l : List UInt8) (rem : List ByteArray) (out : List UInt8) (fds : Bool)
    (hS : Sta P w T L (s :: rem) out fds) (hP : Lt P w) (hsl : s.data.toList = l ++ [10]) (hl : (10 : UInt8) ∉ l) (hs2 : s.size ≤ 4096) (hrem : rem.length ≤ 1000000) :
    Calls Tryz.prog 55 #[.pointer (some ⟨L, 0, none⟩), .int .u8 10] w fun e w' => ∃ g o c, e = .returned (.tuple #[.slice (some ⟨g, o, none⟩) s.size c, .nilIface]) ∧ s.size ≤ c ∧ ¬ P g ∧ Lt (fun k => P k ∨ k = g) w' ∧ RB (fun k => k = g) w' (some ⟨g, o, none⟩) s.data.toList ∧
      Sta (fun k => P k ∨ k = g) w' T L rem out fds ∧ Fix P w w' := by
  obtain ⟨bv, hLP, hh, hb, hd⟩ := hS
  have HS := Aside0.mk (show 0 < s.size ∧ s.size = l.length + 1 by rw [← data_length, hsl]; simp)
  have HH := Aside0.mk hh
  have HBV := Aside0.mk hb
  have HD := Aside0.mk hd
  have HP := Aside0.mk hP
  have HLP := Aside0.mk hLP
  have HSL := Aside0.mk hsl
  have HL := Aside0.mk hl
  have HS2 := Aside0.mk hs2
  have HREM := Aside0.mk hrem
  obtain ⟨A0, c0, hbv⟩ := hb.form
  have hbv : bv = .slice A0 0 c0 := hbv
  subst hbv
  clear hh hb hd hP hLP hsl hl hs2 hrem
  obtain ⟨zs, hzs, kmk⟩ := make4096
  have HZ := Aside0.mk hzs
  clear hzs
  go_enter Tryz.func55, Tryz.ntmps55
  go_wp2
  go_loopg [] 1 (fun q w' => (q = 1 ∧ w = w') ∨ (q = 0 ∧ Aside0 (Fix P w w') ∧ Aside0 (∃ g o c, w'.heap[L]? = some (.cells #[.iface 59 (.pointer (some ⟨T, 0, none⟩)), .slice (some ⟨g, o, none⟩) s.size c] 164 (0, 0)) ∧ Buf P w' 5 (.slice (some ⟨g, o, none⟩) s.size c) (Lib.byteCells s.data.toList) ∧ Door (fun k => P k ∨ k = L ∨ g = k) w' T rem out fds)))
  case atStart => exact .inl ⟨rfl, rfl⟩
  case round =>
    rcases hrel with ⟨rfl, rfl⟩ | ⟨rfl, HF1, H1⟩
    · have cL0 := blk_cell HH.out 0
      have cL1 := blk_cell HH.out 1
      have HH1 := Aside0.mk (show (w.alloc (.cells zs 5)).heap[L]? = _ from (Below.heap_alloc w _ L (blk_lt HH.out)).trans HH.out)
      have cM0 := blk_cell HH1.out 0
      have HLT := Aside0.mk (show Lt (fun k => P k ∨ k = L ∨ (Value.slice A0 0 c0).ownBlock = some k) w from fun k hk => by
        rcases hk with hk | rfl | hk
        · exact HP.out k hk
        · exact blk_lt HH.out
        · exact HBV.out.lt k hk)
      have HR78 := Aside0.mk (Read78_calls (P := fun k => P k ∨ k = L ∨ (Value.slice A0 0 c0).ownBlock = some k) (w := w.alloc (.cells zs 5)) T w.heap.size s rem out fds zs
        ((HD.out.more fun k hk => by rcases hk with hk | rfl; exact .inl hk; exact .inr (Nat.le_refl _)).alloc _) (fun k hk => by have := HLT.out k hk; simp; omega) (heap_alloc_new w _) HZ.out (fun h => absurd (HLT.out _ h) (Nat.lt_irrefl _)) HS.out.1 HS2.out HREM.out)
      go_wp2_with (first
        | (go_at_call 59; refine (idx_empty HBV.out).mono ?_; rintro e w' ⟨rfl, rfl⟩))

      refine HR78.out.mono ?_
      rintro e w2 ⟨rfl, hd2, hf2, cs', hbb, hcs⟩
      have HD2 := Aside0.mk hd2
      have HF2 := Aside0.mk hf2
      have HBB := Aside0.mk hbb
      have HCS := Aside0.mk hcs
      have HW2 := Aside0.mk (show w.heap.size + 1 ≤ w2.heap.size by have := hf2.size; simpa using this)
      clear hd2 hf2 hbb hcs cL0 cL1 cM0
      have HH2 := Aside0.mk (show w2.heap[L]? = _ from (HF2.out.block L (.inr (.inl rfl))).trans HH1.out)
      have HBV2 := Aside0.mk (HBV.out.stays (w1 := w2) fun k hk => (HF2.out.block k (.inr (.inr hk))).trans (Below.heap_alloc w _ k (HBV.out.lt k hk)))
      have cN1 := blk_cell HH2.out 1
      have hs4 : (s.size : Int) ≤ 4096 := by have := HS2.out; omega
      have hz1 : ((s.size : Int) == 0) = false := by rw [beq_eq_false_iff_ne]; have := HS.out.1; omega
      have hz2 : decide ((s.size : Int) = 0) = false := decide_eq_false (by have := HS.out.1; omega)
      have HLT2 := Aside0.mk (show Lt P w2 from fun k hk => by have := HP.out k hk; have := HW2.out; omega)
      have HNC := Aside0.mk (show ∀ j u, (Lib.byteCells s.data.toList)[j]? = some u → w2.drew.cell? ((⟨w.heap.size, 0, none⟩ : Addr).add j) = some u from fun j u hu => by
        obtain ⟨hj, rfl⟩ := List.getElem?_eq_some_iff.1 hu
        have hj' : j < s.data.toList.length := by rw [Lib.byteCells_length] at hj; exact hj
        show w2.cell? _ = _
        rw [add_at, Nat.zero_add, Lib.cell_of_heap HBB.out, HCS.out j hj']
        simp [Lib.byteCells])
      have HNL := Aside0.mk (show (Lib.byteCells s.data.toList).length = s.size by rw [Lib.byteCells_length, data_length])
      have HNS := Aside0.mk (show (([] : List Value).length + s.size) * 1 ≤ 140737488355328 by have := HS2.out; simp; omega)
      go_wp2
      go_region_law
        ((refine step_append_buf (P := P) (by rfl) _ _ _ 5 (.int .u8 0) 1 (by rfl) Tryz.underlying35 info5 rfl (by decide) (.slice A0 0 c0) [] ⟨w.heap.size, 0, none⟩ s.size 4096 (Lib.byteCells s.data.toList) (by rfl) (by rfl) HBV2.out HNL.out HNC.out (byteCells_one _) HLT2.out HNS.out ?_; intro A1 n1 c1 w3 hb3 hg3 hat3; have HB3 := Aside0.mk hb3; have HG3 := Aside0.mk hg3; have HA3 := Aside0.mk hat3; clear hb3 hg3 hat3; have HH3 := Aside0.mk (blk_grown (w := w2.drew) HH2.out HG3.out (HBV2.out.ne HH2.out (by decide))); have hkk1 := blk_cell HH3.out 1; have hkf1 := blk_frozen HH3.out 1))
      all_goals (
        clear hkk1 hkf1 cN1
        go_wp2
        go_roundg 0
        case measure => omega
        case rel =>
          have hb3 := HB3.out
          simp only [List.nil_append] at hb3
          obtain ⟨g, o, e1, e2⟩ := hb3.some (by rw [HNL.out]; exact HS.out.1)
          rw [HNL.out] at e2
          subst e1 e2
          have hold : ∀ k, k < w2.heap.size → k ≠ L → (Value.slice A0 0 c0).ownBlock ≠ some k → (w3.setCell ⟨L, 1, none⟩ (.slice (some ⟨g, o, none⟩) s.size c1)).heap[k]? = w2.heap[k]? := fun k hk h1 h2 => by
            rw [Below.heap_setCell _ _ _ _ h1, HG3.out.block k hk (fun e => h2 e.symm)]
            rfl
          refine .inr ⟨rfl, ⟨?_⟩, ⟨g, o, c1, blk_put HH3.out 1 _ rfl, ?_, ?_⟩⟩
          · exact ((Fix.alloc HP.out _).trans (HF2.out.mono fun k hk => .inl hk)).trans (((Fix.drew (P := P) (w := w2)).trans (Fix.grown HLT2.out HG3.out fun k hk => (HBV2.out.block k hk).1)).trans (Fix.setCell HLP.out _))
          · exact hb3.stays fun k hk => Below.heap_setCell _ _ _ _ fun e => hb3.ne HH3.out (by decide) (by rw [hk, e])
          · have hd := HD2.out.more (D := fun k => ((P k ∨ k = L ∨ (Value.slice A0 0 c0).ownBlock = some k) ∨ k = w.heap.size) ∨ w2.heap.size ≤ k) fun k hk => hk
            refine (hd.stays fun k hk hlt => hold k hlt (fun e => hk (.inl (.inl (.inr (.inl e))))) (fun e => hk (.inl (.inl (.inr (.inr e)))))).mono fun k hk => ?_
            rcases hk with hk | hk | hk
            · exact .inl (.inl (.inl hk))
            · exact .inl (.inl (.inr (.inl hk)))
            · subst hk
              rcases HA3.out with ha | ⟨g', hg', ha⟩
              · exact .inl (.inl (.inr (.inr ha.symm)))
              · have : g = g' := Option.some.inj hg'
                subst this
                exact .inr ha)
    · obtain ⟨g, o, c, hh, hb, hd⟩ := H1.out
      have hsz := HS.out.2
      rw [hsz] at hh hb
      have HH1 := Aside0.mk hh
      have HB1 := Aside0.mk hb
      have HD1 := Aside0.mk hd
      have HSZ := Aside0.mk hsz
      have HP1 := Aside0.mk (HF1.out.lt HP.out)
      have cL1 := blk_cell hh 1
      have HNC := Aside0.mk (show ∀ j u, (Lib.byteCells s.data.toList)[j]? = some u → (wr.alloc (.cells #[] 5)).cell? ((⟨g, o, none⟩ : Addr).add j) = some u from fun j u hu => by
        have h1 := HB1.out.cells j u hu
        rw [World.cell?_of_block (w := wr) (Below.heap_alloc wr _ _ (World.block_lt_of_cell? wr _ h1))]
        exact h1)
      have HIX := Aside0.mk (Tryz.bytes_IndexByte_at ⟨g, o, none⟩ (l.length + 1) c (ints s.data.toList) 10 wr (by rw [ints_length, data_length]; exact hsz) (fun i hi => by
        have hj : i < s.data.toList.length := by rw [data_length]; omega
        rw [HB1.out.cells i (.int .u8 (s.data.toList[i].toNat : Int)) (byteCells_get _ i hj), ints_getD _ i hj]))
      have HIE := Aside0.mk (show Lib.indexByte (Lib.bytesOf (ints s.data.toList)) ((10 : Int).toNat.toUInt8) = (l.length : Int) by rw [bytesOf_ints, HSL.out]; exact index_end l HL.out)
      obtain ⟨i5, hi5, hz5⟩ := Option.map_eq_some_iff.1 info5
      simp only [Prod.mk.injEq] at hz5
      obtain ⟨o', kcut, ho'⟩ := cut_at (Pr := Tryz.prog) 35 5 Tryz.underlying35 hi5 hz5.2.1 g o (l.length + 1) c (l.length + 1) (Nat.le_refl _)
      have HO' := Aside0.mk ho'
      have kcut : ∀ W : World, (Instr.slice 35 (.slice (some ⟨g, o, none⟩) (l.length + 1) c) (some (.int .i64 ((l.length : Int) + 1))) none none).run Tryz.prog W = .ok (.slice (some ⟨g, o', none⟩) 0 (c - (l.length + 1))) W := by
        intro W
        have := kcut W
        rwa [Nat.sub_self] at this
      have hll : (l.length : Int) ≤ 4095 := by have := HS2.out; omega
      have HCC := Aside0.mk (show l.length + 1 ≤ c from by
        rcases hb with ⟨h, _⟩ | ⟨_, _, _, _, hv, _, _, h1, _⟩
        · cases h
        · injection hv with _ e2 e3
          rw [e2, e3]; exact h1)
      have hcc : (l.length : Int) + 1 ≤ c := by have := HCC.out; omega
      have HNB := Aside0.mk (show Buf P (wr.alloc (.cells #[] 5)) 5 (.slice (some ⟨wr.heap.size, 0, none⟩) 0 0) [] from
        .inr ⟨_, 0, 0, #[], rfl, fun h => absurd (HP1.out _ h) (Nat.lt_irrefl _), heap_alloc_new wr _, by simp, by simp, by simp, fun j hj => absurd hj (Nat.not_lt_zero _)⟩)
      have HNL := Aside0.mk (show (Lib.byteCells s.data.toList).length = l.length + 1 by rw [Lib.byteCells_length, data_length]; exact hsz)
      have HNS := Aside0.mk (show (([] : List Value).length + (l.length + 1)) * 1 ≤ 140737488355328 by have := HS2.out; simp; omega)
      have HPA := Aside0.mk (show Lt P (wr.alloc (.cells #[] 5)) from fun k hk => by have := HP1.out k hk; simp; omega)
      have HKL := Aside0.mk (show ∀ w2, (wr.alloc (.cells #[] 5)).grownBy w2 (Value.slice (some ⟨wr.heap.size, 0, none⟩) 0 0).ownBlock → w2.heap[L]? = some (.cells #[.iface 59 (.pointer (some ⟨T, 0, none⟩)), .slice (some ⟨g, o, none⟩) (l.length + 1) c] 164 (0, 0)) from fun w2 hg2 => by
        have hlt := blk_lt HH1.out
        rw [hg2.block L (by simp; omega) (fun e => by have e : L = wr.heap.size := Option.some.inj e; omega), Below.heap_alloc wr _ L hlt]
        exact HH1.out)
      have cL2 : (wr.alloc (.cells #[] 5)).cell? ⟨L, 1, none⟩ = some (.slice (some ⟨g, o, none⟩) (l.length + 1) c) := by
        rw [World.cell?_of_block (Below.heap_alloc wr _ L (blk_lt HH1.out))]
        exact cL1
      clear hh hb hd hsz ho' hi5 hz5
      go_wp2_with (first
        | (go_at_call 59; refine HIX.out.mono ?_; rintro e w' ⟨rfl, hw⟩; have hw := hw.symm; subst hw; rw [HIE.out])
        | ((with_reducible refine gate_builtin (b := .append) (xs := #[.tmp 20, .tmp 27]) rfl ?_); at_builtin; refine append_buf (P := P) rfl (.tmp 20) (.tmp 27) 35 5 (.int .u8 0) 1 rfl Tryz.underlying35 info5 rfl (by decide) (.slice (some ⟨wr.heap.size, 0, none⟩) 0 0) [] ⟨g, o, none⟩ (l.length + 1) c (Lib.byteCells s.data.toList) rfl rfl HNB.out HNL.out HNC.out (byteCells_one _) HPA.out HNS.out ?_; intro A2 n2 c2 w2 hb hg hat; have HB2 := Aside0.mk hb; have HG2 := Aside0.mk hg; have HA2 := Aside0.mk hat; clear hb hg hat; have HH2 := Aside0.mk (HKL.out w2 HG2.out); have d1 := blk_cell HH2.out 1; have e1 := blk_frozen HH2.out 1))
      go_ret2
      have hb2 := HB2.out
      simp only [List.nil_append] at hb2
      obtain ⟨g2, o2, e1, e2⟩ := hb2.some (by rw [HNL.out]; omega)
      rw [HNL.out, ← HSZ.out] at e2
      subst e1 e2
      have hg2 : wr.heap.size ≤ g2 := by
        rcases HA2.out with ha | ⟨g', hg', ha⟩
        · have ha : g2 = wr.heap.size := Option.some.inj ha
          omega
        · have hg' : g2 = g' := Option.some.inj hg'
          simp at ha
          omega
      have hgl : g < wr.heap.size := HB1.out.lt g rfl
      have hLl := blk_lt HH1.out
      have hold : ∀ k, k < wr.heap.size → k ≠ L → (w2.setCell ⟨L, 1, none⟩ (.slice (some ⟨g, o', none⟩) 0 (c - (l.length + 1)))).heap[k]? = wr.heap[k]? := fun k hk h1 => by
        rw [Below.heap_setCell _ _ _ _ h1, HG2.out.block k (by simp; omega) (fun e => by have e : k = wr.heap.size := Option.some.inj e; omega), Below.heap_alloc wr _ k hk]
      have hg2s : g2 < w2.heap.size := hb2.lt g2 rfl
      obtain ⟨A3, c3, e3, hc3, hrb⟩ := Buf.rb (D := fun k => k = g2) hb2 (fun k hk => (Option.some.inj hk).symm)
      injection e3 with e3 e4 e5
      subst e3 e5
      have hdr : Buf P wr 5 (.slice (some ⟨g, o', none⟩) 0 (c - (l.length + 1))) [] := by
        have := HB1.out.drop (m := l.length + 1) HO'.out (Nat.le_refl _)
        rwa [Nat.sub_self, List.drop_of_length_le (by rw [HNL.out]; exact Nat.le_refl _)] at this
      refine ⟨g2, o2, c2, rfl, by rw [← data_length]; exact hc3, fun h => by have := HP1.out g2 h; omega, fun k hk => ?_, hrb.fix (Fix.setCell (fun h => by have h : L = g2 := h; omega) _), ⟨.slice (some ⟨g, o', none⟩) 0 (c - (l.length + 1)), fun h => ?_, blk_put HH2.out 1 _ rfl, ?_, ?_⟩, ?_⟩
      · simp only [World.setCell, Array.size_modify]
        rcases hk with hk | rfl
        · have := HP1.out k hk; omega
        · exact hg2s
      · rcases h with h | h
        · exact HLP.out h
        · omega
      · refine (hdr.stays fun k hk => hold k (hdr.lt k hk) fun e => hdr.ne HH1.out (by decide) (by rw [hk, e])).mono fun k hk hv => ?_
        rcases hk with hk | hk
        · exact hk
        · have : g = k := Option.some.inj hv
          omega
      · have hd := HD1.out.more (D := fun k => (P k ∨ k = L ∨ g = k) ∨ wr.heap.size ≤ k) fun k hk => hk
        refine (hd.stays fun k hk hlt => hold k hlt (fun e => hk (.inl (.inr (.inl e))))).mono fun k hk => ?_
        rcases hk with (hk | hk) | hk | hk
        · exact .inl (.inl hk)
        · exact .inr (by omega)
        · exact .inl (.inr (.inl hk))
        · exact .inl (.inr (.inr (Option.some.inj hk)))
      · refine HF1.out.trans (((Fix.alloc HP1.out _).trans (Fix.grown HPA.out HG2.out fun k hk => ?_)).trans (Fix.setCell HLP.out _))
        have hk : wr.heap.size = k := Option.some.inj hk
        subst hk
        exact fun h => absurd (HP1.out _ h) (Nat.lt_irrefl _)
end Go.Proofs.YtkmdjpinpjcndaaGreatDoor

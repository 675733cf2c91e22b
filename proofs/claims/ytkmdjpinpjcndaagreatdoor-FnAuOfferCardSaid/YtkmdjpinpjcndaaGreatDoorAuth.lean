/-
  The walk of Auth: a peer that offers names, and what it answers.
-/
import Derived.Test.YtkmdjpinpjcndaaGreatDoorTried
namespace Go.Proofs.YtkmdjpinpjcndaaGreatDoor
open Go.RowKit Go.Proofs.YtkmdjpinpjcndaaGreatDoorW.PrintWords
variable {P D : Nat → Prop} {w w1 w2 : World}

theorem inv157 (x : Value) (w : World) : (invoke (.fn (.method "FirstData") #[]) #[.iface 157 x]).run Tryz.prog w = .ok (.enter 104 #[x]) w := by kernel_rfl
theorem inv158 (x : Value) (w : World) : (invoke (.fn (.method "FirstData") #[]) #[.iface 158 x]).run Tryz.prog w = .ok (.enter 107 #[x]) w := by kernel_rfl
theorem inv85 (x : Value) (w : World) : (invoke (.fn (.method "FirstData") #[]) #[.iface 85 x]).run Tryz.prog w = .ok (.enter 84 #[x]) w := by kernel_rfl
/-- Which function a mechanism's first call comes to, and what that gives. -/
theorem Offers.first {mv : Value} {nm : List UInt8} {st : Int} (h : Offers P w mv nm st) (hP : Lt P w) : ∃ (fn : FuncId) (rv : Value), (∀ W : World, (invoke (.fn (.method "FirstData") #[]) #[mv]).run Tryz.prog W = .ok (.enter fn #[rv]) W) ∧ Calls Tryz.prog fn #[rv] w (FirstPost P w nm st) := by
  rcases h with ⟨u, rfl, hu, rfl, rfl⟩ | ⟨b, rfl, rfl, rfl⟩ | ⟨m, k, f, name, av, rfl, hm, hh, hs, hf, rfl, rfl⟩
  · exact ⟨104, _, inv157 _, first104 u hu hP⟩
  · exact ⟨107, _, inv158 _, first107 b hP⟩
  · exact ⟨84, _, inv85 _, first84 m k st name av hh hs hf hP⟩
/-- The operation calls a method over this place. -/
theorem gate_invoke {P : Program} {ops : Array Oper} {rest : List Oper} {o : Oper} {a : Act} {Q : Exit → Act → World → Prop} {W : World} {r : Operand} {name : String} {xs : Array Operand} {ts : Array TypeId} (_ho : o.op = .call { callee := .invoke r name, args := xs, argTypes := ts }) (h : wpList P ops Q (o :: rest) a W) : wpList P ops Q (o :: rest) a W := h
theorem first_call {ops : Array Oper} {rest : List Oper} {o : Oper} {a : Act} {Q : Exit → Act → World → Prop} {W : World} (hgd : o.guard = none) (r : Operand) (ho : o.op = .call { callee := .invoke r "FirstData", args := #[], argTypes := #[] }) {mv rv : Value} {fn : FuncId} (hs : a.eval r = mv)
    (hinv : ∀ W : World, (invoke (.fn (.method "FirstData") #[]) #[mv]).run Tryz.prog W = .ok (.enter fn #[rv]) W) {FP : Ending → World → Prop} (hc : Calls Tryz.prog fn #[rv] W FP) (h : ∀ e w', FP e w' → ∃ v, e = .returned v ∧ wpList Tryz.prog ops Q rest (a.put o.dst v) w') : wpList Tryz.prog ops Q (o :: rest) a W := by
  refine wpList_plain hgd fun K hK => ?_
  have hrun : (execOp a.eval o).run Tryz.prog W = .ok (.enter fn #[rv]) W := by
    unfold execOp
    simp only [ho, resolve, Sem.run_bind, Sem.run_pure, Result.andThen_ok, hs]
    rw [show (#[mv] ++ Array.map a.eval #[]) = #[mv] by simp]
    exact hinv W
  unfold Oper.wp
  rw [hrun, Oper.upon_enter]
  refine hc.mono fun e w' he => ?_
  obtain ⟨v, rfl, hw⟩ := h e w' he
  exact hK _ _ hw
theorem Door.add {T C : Nat} {rem : List ByteArray} {out : List UInt8} {fds : Bool} {cc : Array Value} (h : Door P w T rem out fds) (hC : w.heap[C]? = some (.cells cc 118 (0, 0))) : Door (fun k => P k ∨ k = C) w T rem out fds := by
  obtain ⟨pv, rd, ov, h4, h5, ⟨es, he, h6⟩, h7⟩ := h
  refine ⟨pv, rd, ov, fun h => ?_, h5, ⟨es, he, h6.mono fun k hk hv => ?_⟩, h7.mono fun k hk hv => ?_⟩
  · rcases h with h | rfl
    · exact h4 h
    · exact blk_ne h5 hC (by decide) rfl
  · rcases hk with hk | rfl
    · exact hk
    · exact absurd hv.symm (h6.ne hC (by decide))
  · rcases hk with hk | rfl
    · exact hk
    · exact absurd hv.symm (h7.ne hC (by decide))

/-- The door beside the reader. -/
theorem Sta.door {T L : Nat} {rem : List ByteArray} {out : List UInt8} {fds : Bool} (h : Sta P w T L rem out fds) : ∃ P' : Nat → Prop, (∀ k, P k → P' k) ∧ (Lt P w → Lt P' w) ∧ Door P' w T rem out fds ∧ ∀ (w' : World) (rem' : List ByteArray) (out' : List UInt8), Fix P' w w' → Door P' w' T rem' out' fds → Sta P w' T L rem' out' fds := by
  obtain ⟨bv, h1, h2, h3, h4⟩ := h
  refine ⟨fun k => P k ∨ k = L ∨ bv.ownBlock = some k, fun k hk => .inl hk, fun hP k hk => ?_, h4, fun w' rem' out' hf hd => ⟨bv, h1, (hf.block L (.inr (.inl rfl))).trans h2, h3.stays fun k hk => hf.block k (.inr (.inr hk)), hd⟩⟩
  rcases hk with hk | rfl | hk
  · exact hP k hk
  · exact blk_lt h2
  · exact h3.lt k hk
/-- The mechanisms' values. -/
def Mechs (ok : Bool) (P : Nat → Prop) (w : World) (A : Option Addr) (ms : List (List UInt8)) : Prop :=
  ∀ i, i < ms.length → ∃ b o mv st, A = some ⟨b, o, none⟩ ∧ P b ∧ w.cell? ⟨b, o + i, none⟩ = some mv ∧ Offers P w mv (nAt ms i) st ∧ (ok = true → st = 0)
theorem Mechs.fix {ok : Bool} {A : Option Addr} {ms : List (List UInt8)} (h : Mechs ok P w A ms) (hf : Fix P w w1) : Mechs ok P w1 A ms := fun i hi => by
  obtain ⟨b, o, mv, st, e, hb, hc, ho, hk⟩ := h i hi
  exact ⟨b, o, mv, st, e, hb, (hf.cell (a := ⟨b, o + i, none⟩) hb).trans hc, ho.fix hf, hk⟩
theorem Mechs.mono {ok : Bool} {A : Option Addr} {ms : List (List UInt8)} (h : Mechs ok P w A ms) (hD : ∀ k, P k → D k) : Mechs ok D w A ms := fun i hi => by
  obtain ⟨b, o, mv, st, e, hb, hc, ho, hk⟩ := h i hi
  exact ⟨b, o, mv, st, e, hD _ hb, hc, ho.mono hD, hk⟩

theorem mem_len : ∀ (ws : List (List UInt8)) (y : List UInt8), y ∈ ws → y.length ≤ (sp ws).length
  | [], y, h => by cases h
  | [a], y, h => by
    rw [List.mem_singleton.1 h]
    exact Nat.le_refl _
  | a :: b :: r, y, h => by
    rw [sp, List.length_append, List.length_cons]
    rcases List.mem_cons.1 h with rfl | h
    · omega
    · have := mem_len (b :: r) y h
      omega
theorem tried_sub (ns ms : List (List UInt8)) (j i : Nat) (hj : j < ns.length) : ∀ y ∈ triedTo ns ms j i, y ∈ ns := by
  intro y hy
  rcases List.mem_append.1 hy with h | h
  · obtain ⟨s, hs, hm⟩ := List.mem_flatMap.1 h
    have : y = s := by simpa using (List.mem_filter.1 hm).2
    rw [this]
    exact List.mem_of_mem_take hs
  · have : y = nAt ns j := by simpa using (List.mem_filter.1 h).2
    rw [this, nAt_eq ns j hj]
    exact List.getElem_mem hj
theorem lines_len (l : List (List UInt8)) (h : ∀ y ∈ l, y.length ≤ 4096) : (l.flatMap authLine).length ≤ l.length * 5000 := by
  induction l with
  | nil => simp
  | cons a r ih =>
    have h1 := ih fun y hy => h y (by simp [hy])
    have h2 := h a (by simp)
    rw [List.flatMap_cons, List.length_append, List.length_cons, Nat.add_mul]
    have : (authLine a).length = a.length + 7 := by simp [authLine, sp, nAuth]
    omega
theorem words_len : ∀ ws : List (List UInt8), ws.length ≤ (sp ws).length + 1
  | [] => by simp
  | [a] => by simp
  | a :: b :: r => by
    have := words_len (b :: r)
    simp only [sp, List.length_append, List.length_cons] at *
    omega
theorem fds_calls (T : Nat) (b : Bool) (h : w.cell? ⟨T, 3, none⟩ = some (.bool b)) : Calls Tryz.prog 80 #[.pointer (some ⟨T, 0, none⟩)] w fun e w' => e = .returned (.bool b) ∧ w = w' := by
  go_enter Tryz.func80, Tryz.ntmps80
  go_wp2
  go_ret
  exact ⟨rfl, rfl⟩
theorem set_zero (cc : Array Value) (v : Value) : (cc.setIfInBounds 9 v)[0]? = cc[0]? := by rw [Array.getElem?_setIfInBounds_ne (by omega)]
/-- What the peer has still to say. -/
def Rep (ok : Bool) (x : List UInt8) (N : Nat) (t : List (List UInt8)) (rem : List ByteArray) : Prop :=
  (ok = true ∧ t = [] ∧ ∃ s, rem = [s] ∧ LineOf s [[79, 75], x]) ∨ (ok = false ∧ rem.length + t.length = N ∧ ∀ s ∈ rem, LineOf s [nRej])

set_option maxRecDepth 100000 in
set_option maxHeartbeats 8000000 in
theorem Auth_calls (ok : Bool) (x : List UInt8) (C T : Nat) (cc : Array Value) (A : Option Addr) (n cA : Nat) (ns ms : List (List UInt8)) (hello : ByteArray) (rem : List ByteArray) (out : List UInt8) (fds : Bool)
    (hC : w.heap[C]? = some (.cells cc 118 (0, 0))) (hc0 : cc[0]? = some (.iface 59 (.pointer (some ⟨T, 0, none⟩)))) (hcs : 10 ≤ cc.size) (hCP : ¬ P C)
    (hD : Door P w T (hello :: rem) out fds) (hP : Lt P w) (hln : LineOf hello (nRej :: ns)) (hns : 0 < ns.length) (hn : ms.length = n) (hm : Mechs ok P w A ms) (hn2 : n ≤ 1000000)
    (hrep : Rep ok x (triedAll ns ms).length [] rem) (hfd : ok = true → fds = false) (hok : ok = true → triedAll ns ms ≠ []) (hout : out.length ≤ 1000) (hN : (triedAll ns ms).length ≤ 1000) :
    Calls Tryz.prog 38 #[.pointer (some ⟨C, 0, none⟩), .slice A n cA] w fun e w' =>
      (ok = false ∧ (∃ t v, e = .returned (.iface t v)) ∧ Door P w' T [] (out ++ [0] ++ (nAuth ++ [13, 10]) ++ (triedAll ns ms).flatMap authLine) fds ∧ Fix P w w' ∧ w'.heap[C]? = some (.cells cc 118 (0, 0))) ∨
      (ok = true ∧ e = .returned .nilIface ∧ (∃ s ∈ ns, Door P w' T [] (out ++ [0] ++ (nAuth ++ [13, 10]) ++ authLine s ++ (nBegin ++ [13, 10])) fds) ∧ Fix P w w' ∧ w'.heap[C]? = some (.cells (cc.setIfInBounds 9 (.string ⟨x.toArray⟩)) 118 (0, 0))) := by
  have kcb := kconst
  have hrl : rem.length ≤ 1000000 := by
    rcases hrep with ⟨_, _, s, rfl, _⟩ | ⟨_, h, _⟩
    · simp
    · simp at h; omega
  have hLT : C < w.heap.size := blk_lt hC
  -- the reader's block
  have hb1 : Below w.heap.size w (w.alloc (.cells #[.iface 59 (.pointer (some ⟨T, 0, none⟩)), .slice none 0 0] 164)) := (Below.refl _ w).alloc (Nat.le_refl _) _
  have HC := Aside0.mk hC
  have HC1 := Aside0.mk (show (w.alloc (.cells #[.iface 59 (.pointer (some ⟨T, 0, none⟩)), .slice none 0 0] 164)).heap[C]? = _ from (hb1.block C hLT).trans hC)
  have cC0 : w.cell? ⟨C, 0, none⟩ = some (.iface 59 (.pointer (some ⟨T, 0, none⟩))) := by rw [blk_cell hC 0]; exact hc0
  have cC1 : (w.alloc (.cells #[.iface 59 (.pointer (some ⟨T, 0, none⟩)), .slice none 0 0] 164)).cell? ⟨C, 0, none⟩ = some (.iface 59 (.pointer (some ⟨T, 0, none⟩))) := by rw [blk_cell HC1.out 0]; exact hc0
  have hL1 := heap_alloc_new w (.cells #[.iface 59 (.pointer (some ⟨T, 0, none⟩)), .slice none 0 0] 164)
  have hd1 : Door (fun k => (P k ∨ k = C) ∨ k = w.heap.size) (w.alloc (.cells #[.iface 59 (.pointer (some ⟨T, 0, none⟩)), .slice none 0 0] 164)) T (hello :: rem) out fds :=
    ((hD.add hC).more (fun k hk => by rcases hk with hk | rfl; exact .inl hk; exact .inr (Nat.le_refl _))).below hb1
  have hlt1 : Lt (fun k => (P k ∨ k = C) ∨ k = w.heap.size) (w.alloc (.cells #[.iface 59 (.pointer (some ⟨T, 0, none⟩)), .slice none 0 0] 164)) := fun k hk => by
    simp
    rcases hk with (hk | rfl) | rfl
    · have := hP k hk; omega
    · omega
    · omega
  have HNULL := Aside0.mk (Null_calls T (hello :: rem) out fds hd1 hlt1 (by omega))
  have HL1 := Aside0.mk hL1
  have HB1 := Aside0.mk hb1
  have HLT1 := Aside0.mk hlt1
  have HC0 := Aside0.mk hc0
  have HCS := Aside0.mk hcs
  have HCP := Aside0.mk hCP
  have HP := Aside0.mk hP
  have HLN := Aside0.mk hln
  have HNS := Aside0.mk hns
  have HM := Aside0.mk hm
  have HMN := Aside0.mk hn
  have HREP := Aside0.mk hrep
  have HFD := Aside0.mk hfd
  have HOK := Aside0.mk hok
  have HOUT := Aside0.mk hout
  have HN := Aside0.mk hN
  have HRL := Aside0.mk hrl
  have HN2 := hn2
  clear hL1 hb1 hd1 hlt1 hC hc0 hcs hCP hD hP hln hns hm hn hrep hfd hok hout hN hrl hn2 hLT
  go_enter Tryz.func38, Tryz.ntmps38
  go_wp2_with (go_at_call 79; refine HNULL.out.mono ?_)
  rintro e w2 ⟨rfl, hd2, hf2⟩
  have HD2 := Aside0.mk hd2
  have HF2 := Aside0.mk hf2
  have HC2 := Aside0.mk (show w2.heap[C]? = _ from (hf2.block C (.inl (.inr rfl))).trans HC1.out)
  have cC2 : w2.cell? ⟨C, 0, none⟩ = some (.iface 59 (.pointer (some ⟨T, 0, none⟩))) := by rw [blk_cell HC2.out 0]; exact HC0.out
  have HW2 := Aside0.mk (write_one (w := w2) (P := fun k => (P k ∨ k = C) ∨ k = w.heap.size) T (hello :: rem) (out ++ [0]) nAuth fds #[.int .u8 65, .int .u8 85, .int .u8 84, .int .u8 72] (4, 5) 4 4 1 hd2 (hf2.lt HLT1.out) rfl rfl (by decide) (by have := HOUT.out; simp; omega))
  clear hd2 hf2 cC0 cC1
  go_wp2_with (go_at_call 49; refine HW2.out.mono ?_)
  rintro e w3 ⟨rfl, hd3, hf3⟩
  have hf3' := HF2.out.trans hf3
  have hst3 : Sta (fun k => P k ∨ k = C) w3 T w.heap.size (hello :: rem) (out ++ [0] ++ (nAuth ++ [13, 10])) fds :=
    ⟨.slice none 0 0, fun h => by
      rcases h with h | h
      · exact absurd (HP.out _ h) (Nat.lt_irrefl _)
      · have := blk_lt HC.out; omega, (hf3'.block _ (.inr rfl)).trans HL1.out, Buf.nil _ _ _, hd3.mono fun k hk => by
      rcases hk with hk | hk | hk
      · exact .inl hk
      · exact .inr hk
      · cases hk⟩
  have HF3 := Aside0.mk (hf3'.mono (D := fun k => P k ∨ k = C) fun k hk => .inl hk)
  have HC3 := Aside0.mk (show w3.heap[C]? = _ from (hf3.block C (.inl (.inr rfl))).trans HC2.out)
  have HLT3 := Aside0.mk (show Lt (fun k => P k ∨ k = C) w3 from fun k hk => Nat.lt_of_lt_of_le (HLT1.out k (.inl hk)) hf3'.size)
  have HRD := Aside0.mk (readLine_calls (w := w3) T w.heap.size hello (nRej :: ns) rem (out ++ [0] ++ (nAuth ++ [13, 10])) fds hst3 HLT3.out HLN.out HRL.out)
  clear hd3 hf3 hf3' hst3 cC2 HD2 HW2 HNULL
  go_wp2_with (go_at_call 50; refine HRD.out.mono ?_)
  rintro e w4 ⟨D, g, c, rfl, hc, hPD, hlt4, hrw, hst4, hf4⟩
  have HST4 := Aside0.mk hst4
  have HLT4 := Aside0.mk hlt4
  have HRW := Aside0.mk hrw
  have HPD := Aside0.mk hPD
  have HF4 := Aside0.mk hf4
  have HCC := Aside0.mk (show ns.length + 1 ≤ c from hc)
  have HC4 := Aside0.mk (show w4.heap[C]? = _ from (hf4.block C (.inr rfl)).trans HC3.out)
  obtain ⟨b, o, Aj, cj, e, hd, hcell, hrb⟩ := hrw.cells 0 (by simp)
  injection e with e
  injection e with e1 e2
  subst e1 e2
  have HEQ := Aside0.mk (Tryz.bytes_Equal_all Aj (some ⟨w4.heap.size, 0, none⟩) 8 cj 8 8 (ints nRej) (ints nRej) (w4.alloc (.cells #[.int .u8 82, .int .u8 69, .int .u8 74, .int .u8 69, .int .u8 67, .int .u8 84, .int .u8 69, .int .u8 68] 5 (8, 9))) rfl rfl
    (hrb.fix (Fix.ofBelow ((Below.refl _ w4).alloc (Nat.le_refl _) _) hlt4)).bytesIn (RB.ofBlock (D := fun _ => True) (l := nRej) (heap_alloc_new w4 _) trivial (by decide) (fun j hj => by rw [Nat.zero_add]; exact cells_of nRej _ rfl j hj)).bytesIn)
  replace hcell : w4.cell? ⟨g, 0, none⟩ = some (.slice Aj 8 cj) := hcell
  have hq1 : decide ((ns.length : Int) + 1 < 2) = false := decide_eq_false (by have := HNS.out; omega)
  have hq2 : decide (ns.length + 1 < 2) = false := decide_eq_false (by have := HNS.out; omega)
  obtain ⟨i35, hi35, hz35⟩ := Option.map_eq_some_iff.1 info35
  simp only [Prod.mk.injEq] at hz35
  obtain ⟨o', kcut, ho'⟩ := cut_at (Pr := Tryz.prog) 167 35 Tryz.underlying167 hi35 hz35.2.1 g 0 (ns.length + 1) c 1 (by omega)
  have ho1 : o' = 1 := by have := HCC.out; have := HNS.out; omega
  subst ho1
  replace kcut : ∀ W : World, (Instr.slice 167 (.slice (some ⟨g, 0, none⟩) (ns.length + 1) c) (some (.int .i64 1)) none none).run Tryz.prog W = .ok (.slice (some ⟨g, 1, none⟩) ns.length (c - 1)) W := kcut
  have HTT := Aside0.mk (show (Lib.bytesOf (ints nRej) == Lib.bytesOf (ints nRej)) = true by rw [beq_self_eq_true])
  have HB5 := Aside0.mk (show Below w4.heap.size w4 (w4.alloc (.cells #[.int .u8 82, .int .u8 69, .int .u8 74, .int .u8 69, .int .u8 67, .int .u8 84, .int .u8 69, .int .u8 68] 5 (8, 9))) from (Below.refl _ w4).alloc (Nat.le_refl _) _)
  clear hst4 hlt4 hrw hPD hf4 hc hd hrb ho' hi35 hz35
  simp only [List.length_cons]
  go_wp2_with (go_at_call 51; refine HEQ.out.mono ?_; rintro e w5 ⟨rfl, hw5⟩; have hw5 := hw5.symm; subst hw5; rw [HTT.out])
  clear hcell HEQ
  have hf45 : Fix D w4 (w4.alloc (.cells #[.int .u8 82, .int .u8 69, .int .u8 74, .int .u8 69, .int .u8 67, .int .u8 84, .int .u8 69, .int .u8 68] 5 (8, 9))) := Fix.ofBelow HB5.out HLT4.out
  have HST5 := Aside0.mk (HST4.out.below HB5.out (fun k hk => .inl hk))
  have HLT5 := Aside0.mk (hf45.lt HLT4.out)
  have HRW5 := Aside0.mk (HRW.out.fix hf45)
  have hf5 : Fix (fun k => P k ∨ k = C) w (w4.alloc (.cells #[.int .u8 82, .int .u8 69, .int .u8 74, .int .u8 69, .int .u8 67, .int .u8 84, .int .u8 69, .int .u8 68] 5 (8, 9))) := (((Fix.ofBelow HB1.out (fun k hk => by rcases hk with hk | rfl; exact HP.out k hk; exact blk_lt HC.out)).trans HF3.out).trans HF4.out).trans (hf45.mono HPD.out)
  have HF5 := Aside0.mk hf5
  have HM5 := Aside0.mk ((HM.out.fix (hf5.mono fun k hk => .inl hk)).mono (D := D) fun k hk => HPD.out k (.inl hk))
  have HC5 := Aside0.mk ((hf5.block C (.inr rfl)).trans HC.out)
  clear hf45 hf5 HST4 HLT4 HRW HF4 HC4 HF3 HC3 HLT3 HRD HC2 HF2 HB5 HM HC1 HB1 HL1 HLT1 HTT HCC kcut hq1 hq2
  generalize w4.alloc (.cells #[.int .u8 82, .int .u8 69, .int .u8 74, .int .u8 69, .int .u8 67, .int .u8 84, .int .u8 69, .int .u8 68] 5 (8, 9)) = w5 at *
  go_loopg [68] ns.length (fun q v68 w' => ∃ (j : Nat) (rem' : List ByteArray), j ≤ ns.length ∧ Aside0 (q = ns.length - j) ∧ v68 = .int .i64 j ∧ Aside0 (Rep ok x (triedAll ns ms).length (triedTo ns ms j 0) rem' ∧ Sta D w' T w.heap.size rem' (out ++ [0] ++ (nAuth ++ [13, 10]) ++ (triedTo ns ms j 0).flatMap authLine) fds ∧ Fix D w5 w'))
  case atStart =>
    refine ⟨0, rem, by omega, ⟨by omega⟩, rfl, ⟨?_, ?_, Fix.refl _ _⟩⟩
    · rw [tried_zero]; exact HREP.out
    · rw [tried_zero, List.flatMap_nil, List.append_nil]; exact HST5.out
  case round =>
    obtain ⟨j, rem', hj, HQ, rfl, HR⟩ := hrel
    by_cases hlt : j < ns.length
    · obtain ⟨b, o, Aj, cj, e, hDg, hcell, hrb⟩ := (HRW5.out.fix HR.out.2.2).cells (j + 1) (by simp; exact hlt)
      injection e with e
      injection e with e1 e2
      subst e1 e2
      replace hcell : wr.cell? ⟨g, 1 + j, none⟩ = some (.slice Aj (nAt ns j).length cj) := by
        rw [nAt_eq ns j hlt, show 1 + j = 0 + (j + 1) by omega]
        exact hcell
      have HRB := Aside0.mk (show RB D wr Aj (nAt ns j) by rw [nAt_eq ns j hlt]; exact hrb)
      have HLTR := Aside0.mk (HR.out.2.2.lt HLT5.out)
      have hjn : (j : Int) ≤ 10000 := by
        have h1 := words_len (nRej :: ns)
        have h2 := HLN.out.small
        rw [← data_length, HLN.out.text, List.length_append] at h2
        rw [List.length_cons] at h1
        omega
      have HNL := Aside0.mk (show (nAt ns j).length ≤ 4096 by
        have h1 := mem_len (nRej :: ns) (nAt ns j) (by rw [nAt_eq ns j hlt]; exact List.mem_cons_of_mem _ (List.getElem_mem hlt))
        have h2 := HLN.out.small
        rw [← data_length, HLN.out.text, List.length_append] at h2
        omega)
      have HBND := Aside0.mk (show ∀ i, (out ++ [0] ++ (nAuth ++ [13, 10]) ++ (triedTo ns ms j i).flatMap authLine).length ≤ 100000000 from fun i => by
        have h1 := lines_len (triedTo ns ms j i) fun y hy => by
          have h1 := mem_len (nRej :: ns) y (List.mem_cons_of_mem _ (tried_sub ns ms j i hlt y hy))
          have h2 := HLN.out.small
          rw [← data_length, HLN.out.text, List.length_append] at h2
          omega
        have h2 := tried_le ns ms j i hlt
        have h3 := HN.out
        have h4 := HOUT.out
        have h5 : (triedTo ns ms j i).length * 5000 ≤ 1000 * 5000 := Nat.mul_le_mul_right _ (by omega)
        simp only [List.length_append, nAuth, List.length_cons, List.length_nil] at h1 ⊢
        omega)
      clear hrb hDg
      go_wp2
      have HRI := Aside0.mk (And.intro (Nat.le_refl 0) HR.out)
      go_loopg [74] n (fun q v74 w' => ∃ (i : Nat) (rem2 : List ByteArray), i ≤ n ∧ Aside0 (q = n - i) ∧ v74 = .int .i64 i ∧ Aside0 (Rep ok x (triedAll ns ms).length (triedTo ns ms j i) rem2 ∧ Sta D w' T w.heap.size rem2 (out ++ [0] ++ (nAuth ++ [13, 10]) ++ (triedTo ns ms j i).flatMap authLine) fds ∧ Fix D w5 w' ∧ Fix D wr w'))
      case atStart =>
        exact ⟨0, rem', by omega, ⟨by omega⟩, rfl, ⟨HR.out.1, HR.out.2.1, HR.out.2.2, Fix.refl _ _⟩⟩
      case round =>
        clear hcell
        obtain ⟨i, rem2, hi, HQ2, rfl, HR2⟩ := hrel
        by_cases hlt2 : i < n
        · obtain ⟨b, o, mv, st, rfl, hDb, hmc, hof, hst⟩ := (HM5.out.fix HR2.out.2.2.1) i (by rw [HMN.out]; exact hlt2)
          have HLTW := Aside0.mk (HR2.out.2.2.1.lt HLT5.out)
          obtain ⟨fn, rv, kinv, hfirst⟩ := hof.first HLTW.out
          have HFIRST := Aside0.mk hfirst
          have HOF := Aside0.mk hof
          have HST := Aside0.mk (And.intro hst hof.st)
          have HINV := Aside0.mk kinv
          clear hDb hfirst hof hst kinv
          go_wp2_with ((with_reducible refine gate_invoke (r := .tmp 79) (name := "FirstData") rfl ?_); refine first_call rfl (.tmp 79) rfl rfl HINV.out HFIRST.out ?_; rintro e w6 ⟨A6, c6, dv, D6, rfl, h1, h2, h3, h4, h5⟩; refine ⟨_, rfl, ?_⟩; have HFP := Aside0.mk (And.intro h1 (And.intro h2 (And.intro h3 (And.intro h4 h5)))); clear h1 h2 h3 h4 h5 HINV HFIRST)
          obtain ⟨h1, h2, h3, h4, h5⟩ := HFP.out
          have hf6 : Fix D wr w6 := Fix.ofBelow h5 HLTW.out
          have HRB6 := Aside0.mk ((HRB.out.fix HR2.out.2.2.2).fix hf6)
          have HST6 := Aside0.mk (HR2.out.2.1.below h5 (fun k hk => .inl hk))
          have HLT6 := Aside0.mk (hf6.lt HLTW.out)
          have HC6 := Aside0.mk ((hf6.block C (HPD.out C (.inr rfl))).trans ((HR2.out.2.2.1.block C (HPD.out C (.inr rfl))).trans HC5.out))
          have HF6 := Aside0.mk hf6
          have HEQ := Aside0.mk (Tryz.bytes_Equal_all Aj A6 (nAt ns j).length cj (nAt ms i).length c6 (ints (nAt ns j)) (ints (nAt ms i)) w6 (ints_length _) (ints_length _) HRB6.out.bytesIn h4.bytesIn)
          clear h1 h2 h3 h4 h5 hf6 HFP hmc
          refine HEQ.out.mono ?_
          rintro e w7 ⟨rfl, hw7⟩
          have hw7 := hw7.symm
          subst hw7
          rw [bytesOf_ints, bytesOf_ints]
          by_cases hh : nAt ns j = nAt ms i
          · rw [show (nAt ns j == nAt ms i) = true by simpa using hh]
            have HH := Aside0.mk hh
            have HTH := Aside0.mk (tried_hit ns ms j i (by rw [HMN.out]; exact hlt2) hh)
            have HTL := Aside0.mk (show (triedTo ns ms j (i + 1)).length ≤ (triedAll ns ms).length from tried_le ns ms j (i + 1) hlt)
            obtain ⟨P', hPP, hLP, hdr, hback⟩ := HST6.out.door
            have HBACK := Aside0.mk hback
            have cC6 : w6.cell? ⟨C, 0, none⟩ = some (.iface 59 (.pointer (some ⟨T, 0, none⟩))) := by rw [blk_cell HC6.out 0]; exact HC0.out
            have HW := Aside0.mk (write_two (P := P') (w := w6) T rem2 (out ++ [0] ++ (nAuth ++ [13, 10]) ++ (triedTo ns ms j i).flatMap authLine) nAuth (nAt ns j) fds #[.int .u8 65, .int .u8 85, .int .u8 84, .int .u8 72] (4, 5) 4 4 2 Aj cj hdr (hLP HLT6.out) (HRB6.out.mono hPP) rfl rfl (by decide) (by have := HNL.out; omega) (HBND.out i))
            have HPP := Aside0.mk hPP
            clear hh hback hdr hLP hPP HEQ
            go_wp2_with (go_at_call 49; refine HW.out.mono ?_)
            rintro e w7 ⟨rfl, hd7, hf7⟩
            have HST7 := Aside0.mk (show Sta D w7 T w.heap.size rem2 (out ++ [0] ++ (nAuth ++ [13, 10]) ++ (triedTo ns ms j (i + 1)).flatMap authLine) fds by
              rw [HTH.out, List.flatMap_append, List.flatMap_cons, List.flatMap_nil, List.append_nil, ← List.append_assoc]
              exact HBACK.out w7 _ _ hf7 hd7)
            have HF7 := Aside0.mk (hf7.mono HPP.out)
            have HLT7 := Aside0.mk ((hf7.mono HPP.out).lt HLT6.out)
            have HC7 := Aside0.mk (show w7.heap[C]? = _ from (hf7.block C (HPP.out C (HPD.out C (.inr rfl)))).trans HC6.out)
            clear hd7 hf7 cC6 HW HBACK
            rcases HR2.out.1 with ⟨hok1, ht, s, rfl, hl⟩ | ⟨hok1, hlen, hall⟩
            · have hst0 : st = 0 := HST.out.1 hok1
              subst hst0
              have hfds := HFD.out hok1
              subst hfds
              have HTR := Aside0.mk (tryAuth_ok (P := fun k => D k ∧ k ≠ C) (w := w7) C T w.heap.size mv s x [] _ false cc HCS.out HC7.out (fun h => h.2 rfl) (HST7.out.mono fun k hk => hk.1) (fun k hk => HLT7.out k hk.1) hl (by simp))
              have HOK1 := Aside0.mk hok1
              have HT0 := Aside0.mk ht
              clear hok1 ht hl
              go_wp2_with (go_at_call 53; refine HTR.out.mono ?_)
              rintro e w8 ⟨rfl, hs8, hf8, hc8⟩
              have HF8 := Aside0.mk hf8
              have HC8 := Aside0.mk hc8
              have HS8 := Aside0.mk hs8
              have cT3 : w8.cell? ⟨T, 3, none⟩ = some (.bool false) := by
                obtain ⟨bv, _, _, _, pv, rd, ov, _, h5, _⟩ := hs8
                rw [blk_cell h5 3]; rfl
              have cC8 : w8.cell? ⟨C, 0, none⟩ = some (.iface 59 (.pointer (some ⟨T, 0, none⟩))) := by rw [blk_cell hc8 0, set_zero]; exact HC0.out
              obtain ⟨P8, hPP8, hLP8, hdr8, hback8⟩ := (hs8.add hc8).door
              have HLT8 := Aside0.mk (show Lt (fun k => (D k ∧ k ≠ C) ∨ k = C) w8 from fun k hk => by
                rcases hk with hk | rfl
                · exact Nat.lt_of_lt_of_le (HLT7.out k hk.1) hf8.size
                · exact blk_lt hc8)
              have HW8 := Aside0.mk (write_one (P := P8) (w := w8) T [] _ nBegin false #[.int .u8 66, .int .u8 69, .int .u8 71, .int .u8 73, .int .u8 78] (5, 6) 5 5 1 hdr8 (hLP8 HLT8.out) rfl rfl (by decide) (HBND.out (i + 1)))
              have HPP8 := Aside0.mk hPP8
              have HT3 := Aside0.mk cT3
              clear hs8 hf8 hc8 hback8 hdr8 hLP8 hPP8 HTR cT3
              go_wp2_with (first | (go_at_call 80; refine (fds_calls T false HT3.out).mono ?_; rintro e _ ⟨rfl, rfl⟩) | (go_at_call 49; refine HW8.out.mono ?_))
              rintro e w9 ⟨rfl, hd9, hf9⟩
              have HD9 := Aside0.mk (And.intro hd9 hf9)
              clear hd9 hf9 cC8 HW8
              go_wp2
              go_ret
              have hPD : ∀ k, P k → D k := fun k hk => HPD.out k (.inl hk)
              have hPD8 : ∀ k, P k → P8 k := fun k hk => HPP8.out k (.inl ⟨hPD k hk, fun e => HCP.out (e ▸ hk)⟩)
              refine .inr ⟨HOK1.out, rfl, ⟨nAt ns j, by rw [nAt_eq ns j hlt]; exact List.getElem_mem hlt, ?_⟩, ?_, ?_⟩
              · have := HD9.out.1.mono hPD8
                rw [HTH.out, HT0.out] at this
                simpa using this
              · exact (((((HF5.out.mono fun k hk => .inl hk).trans (HR2.out.2.2.1.mono hPD)).trans (HF6.out.mono hPD)).trans (HF7.out.mono hPD)).trans (HF8.out.mono fun k hk => ⟨hPD k hk, fun e => HCP.out (e ▸ hk)⟩)).trans (HD9.out.2.mono hPD8)
              · rw [HD9.out.2.block C (HPP8.out C (.inr rfl))]
                exact HC8.out
            · rw [HTH.out, List.length_append] at HTL
              obtain ⟨s, r, rfl⟩ : ∃ s r, rem2 = s :: r := by
                rcases rem2 with _ | ⟨s, r⟩
                · have := HTL.out; simp at this hlen; omega
                · exact ⟨s, r, rfl⟩
              have HTR := fun st' hst' => Aside0.mk (tryAuth_rej (P := D) (w := w7) C T w.heap.size mv st' hst' s r _ fds HST7.out HLT7.out (hall s (by simp)) (by simp at hlen; have := HN.out; omega))
              have HTR0 := HTR 0 (.inl rfl)
              have HTR1 := HTR 1 (.inr rfl)
              have HREP2 := Aside0.mk (show Rep ok x (triedAll ns ms).length (triedTo ns ms j (i + 1)) r from .inr ⟨hok1, by rw [HTH.out]; simp at hlen ⊢; omega, fun s' hs' => hall s' (by simp [hs'])⟩)
              clear hok1 hlen hall HTR
              rcases HST.out.2 with rfl | rfl
              · go_wp2_with (go_at_call 53; refine HTR1.out.mono ?_)
                rintro e w8 ⟨rfl, hs8, hf8⟩
                have HS8 := Aside0.mk (And.intro hs8 hf8)
                clear hs8 hf8 HTR0 HTR1
                go_wp2
                go_roundg (n - (i+1))
                case measure => have := HQ2.out; omega
                case rel =>
                  exact ⟨i + 1, r, by omega, ⟨rfl⟩, by go_num, ⟨HREP2.out, HS8.out.1, ((HR2.out.2.2.1.trans HF6.out).trans HF7.out).trans HS8.out.2, ((HR2.out.2.2.2.trans HF6.out).trans HF7.out).trans HS8.out.2⟩⟩
              · go_wp2_with (go_at_call 53; refine HTR0.out.mono ?_)
                rintro e w8 ⟨rfl, hs8, hf8⟩
                have HS8 := Aside0.mk (And.intro hs8 hf8)
                clear hs8 hf8 HTR0 HTR1
                go_wp2
                go_roundg (n - (i+1))
                case measure => have := HQ2.out; omega
                case rel =>
                  exact ⟨i + 1, r, by omega, ⟨rfl⟩, by go_num, ⟨HREP2.out, HS8.out.1, ((HR2.out.2.2.1.trans HF6.out).trans HF7.out).trans HS8.out.2, ((HR2.out.2.2.2.trans HF6.out).trans HF7.out).trans HS8.out.2⟩⟩
          · rw [show (nAt ns j == nAt ms i) = false by simpa using hh]
            have HTM := Aside0.mk (tried_miss ns ms j i (by rw [HMN.out]; exact hlt2) hh)
            clear hh HEQ
            go_wp2
            go_roundg (n - (i+1))
            case measure => have := HQ2.out; omega
            case rel =>
              exact ⟨i + 1, rem2, by omega, ⟨rfl⟩, by go_num, ⟨by rw [HTM.out]; exact ⟨HR2.out.1, HST6.out, HR2.out.2.2.1.trans HF6.out, HR2.out.2.2.2.trans HF6.out⟩⟩⟩
        · have hin : i = n := by omega
          subst hin
          go_wp2
          go_roundg (ns.length - (j+1))
          case measure => have := HQ.out; omega
          case rel =>
            exact ⟨j + 1, rem2, by omega, ⟨rfl⟩, by go_num, ⟨by rw [tried_next ns ms j hlt, HMN.out]; exact ⟨HR2.out.1, HR2.out.2.1, HR2.out.2.2.1⟩⟩⟩
    · have hkn : j = ns.length := by omega
      subst hkn
      go_wp2
      go_ret
      obtain ⟨hr, hs, hf⟩ := HR.out
      rw [tried_all ns ms ns.length (Nat.lt_irrefl _)] at hr hs
      rcases hr with ⟨hok1, ht, _⟩ | ⟨hok1, hlen, _⟩
      · exact absurd ht (HOK.out hok1)
      · obtain rfl : rem' = [] := List.eq_nil_of_length_eq_zero (by omega)
        obtain ⟨P', hPP, _, hdr, _⟩ := hs.door
        have hPD : ∀ k, P k → D k := fun k hk => HPD.out k (.inl hk)
        refine .inl ⟨hok1, ⟨_, _, rfl⟩, (hdr.mono fun k hk => hPP k (hPD k hk)).alloc _, ?_, ?_⟩
        · exact ((HF5.out.mono fun k hk => .inl hk).trans (hf.mono hPD)).trans (Fix.alloc (fun k hk => hf.lt HLT5.out k (hPD k hk)) _)
        · rw [Below.heap_alloc _ _ _ (hf.lt HLT5.out C (HPD.out C (.inr rfl))), hf.block C (HPD.out C (.inr rfl))]
          exact HC5.out
end Go.Proofs.YtkmdjpinpjcndaaGreatDoor

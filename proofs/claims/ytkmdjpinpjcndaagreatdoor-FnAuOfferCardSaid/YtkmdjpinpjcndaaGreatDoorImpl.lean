/-
  The walk of the thin package's auth: mechanisms made, Auth called.
-/
import Derived.Test.YtkmdjpinpjcndaaGreatDoorAuth
import Derived.Test.YtkmdjpinpjcndaaGreatDoorFeed
import Derived.Test.YtkmdjpinpjcndaaGreatDoorNew
import Derived.Recover
import Derived.Laws.Pointers
namespace Go.Proofs.YtkmdjpinpjcndaaGreatDoor
open Go.RowKit Go.Proofs.YtkmdjpinpjcndaaGreatDoorW.PrintWords
variable {P D : Nat → Prop} {w w1 w2 : World}

theorem catch_idle (p : Addr) (w : World) : CallsD Tryz.prog 35 #[.pointer (some p)] .returning w fun e u' w' => e = .returned (.tuple #[]) ∧ u' = .returning ∧ w' = w := by
  refine callsD_of_wpS Tryz.func35 rfl fun c₀ cs hu => ?_
  apply wpS_seq
  apply wpS_region
  simp [wpOpsS, go_sem, recoverD, hu, Tryz.ntmps35, Exit.thenS]
  refine wpS_cond (t := false) (by simp [Act.eval, Array.replicate]) ?_
  simp only [Bool.false_eq_true, if_false]
  refine wpS_of_wp (wp_skip ?_)
  cases c₀
  simp_all [bodyPostS, results, Tryz.results35]

theorem res23 (tmps : Array Value) (R : Addr) (v : Value) (W : World) (h : tmps.getD 4 undef = .pointer (some R)) (hc : W.cell? R = some v) : (results Tryz.f23 tmps).run Tryz.prog W = .ok v W := by
  have h' : tmps[4]?.getD undef = .pointer (some R) := by simpa [Array.getD_eq_getD_getElem?] using h
  simp [results, Tryz.results23, go_sem, h', hc]
/-- A mechanism of the client's. -/
structure M4 where
  k : Int
  name : ByteArray
  f : Int
  aa : Option Addr
  an : Nat
  ac : Nat
def mAt (ml : List M4) (i : Nat) : M4 := ml.getD i ⟨0, ⟨#[]⟩, 0, none, 0, 0⟩
theorem mAt_eq (ml : List M4) (i : Nat) (h : i < ml.length) : mAt ml i = ml[i] := by simp [mAt, List.getD_eq_getElem?_getD, h]
def mName (m : M4) : List UInt8 := if m.k = 0 then nExternal else if m.k = 1 then nAnonymous else m.name.data.toList
/-- Mechanisms that are read, in a block of D. -/
def ReadsM (D : Nat → Prop) (w : World) (A : Option Addr) (ml : List M4) : Prop :=
  ∀ i, i < ml.length → ∃ b o, A = some ⟨b, o, none⟩ ∧ D b ∧ w.cell? ⟨b, o + i * 4, none⟩ = some (.int .u8 (mAt ml i).k) ∧ w.cell? ⟨b, o + i * 4 + 1, none⟩ = some (.string (mAt ml i).name) ∧ w.cell? ⟨b, o + i * 4 + 2, none⟩ = some (.int .u8 (mAt ml i).f) ∧
    w.cell? ⟨b, o + i * 4 + 3, none⟩ = some (.slice (mAt ml i).aa (mAt ml i).an (mAt ml i).ac)
theorem ReadsM.fix {A : Option Addr} {ml : List M4} (h : ReadsM D w A ml) (hf : Fix D w w1) : ReadsM D w1 A ml := fun i hi => by
  obtain ⟨b, o, e, hD, h0, h1, h2, h3⟩ := h i hi
  exact ⟨b, o, e, hD, (hf.cell (a := ⟨b, o + i * 4, none⟩) hD).trans h0, (hf.cell (a := ⟨b, o + i * 4 + 1, none⟩) hD).trans h1, (hf.cell (a := ⟨b, o + i * 4 + 2, none⟩) hD).trans h2, (hf.cell (a := ⟨b, o + i * 4 + 3, none⟩) hD).trans h3⟩
theorem ReadsM.mono {A : Option Addr} {ml : List M4} (h : ReadsM D w A ml) (hD : ∀ k, D k → P k) : ReadsM P w A ml := fun i hi => by
  obtain ⟨b, o, e, hd, r⟩ := h i hi
  exact ⟨b, o, e, hD _ hd, r⟩

/-- The value made for a mechanism. -/
def MV (w : World) (mv : Value) (m : M4) : Prop :=
  (m.k = 0 ∧ mv = .iface 157 (.agg #[.string m.name])) ∨ (m.k = 1 ∧ ∃ b, mv = .iface 158 (.pointer (some ⟨b, 0, none⟩))) ∨
    (m.k = 2 ∧ ∃ b, mv = .iface 85 (.pointer (some ⟨b, 0, none⟩)) ∧ w.heap[b]? = some (.cells #[.int .u8 m.k, .string m.name, .int .u8 m.f, .slice m.aa m.an m.ac, .int .i64 0] 87 (0, 0)))
theorem MV.grown {base n : Nat} {v mv : Value} {xs : List Value} {m : M4} (h : MV w mv m) (ho : w.ownsRow base 82 1 v n xs) (hg : w.grownBy w1 v.ownBlock) : MV w1 mv m := by
  rcases h with h | h | ⟨hk, b, e, hh⟩
  · exact .inl h
  · exact .inr (.inl h)
  · exact .inr (.inr ⟨hk, b, e, blk_grown hh hg (own_ne ho hh (by decide))⟩)
theorem MV.below {mv : Value} {m : M4} (h : MV w mv m) (hb : Below w.heap.size w w1) : MV w1 mv m := by
  rcases h with h | h | ⟨hk, b, e, hh⟩
  · exact .inl h
  · exact .inr (.inl h)
  · exact .inr (.inr ⟨hk, b, e, (hb.block b (blk_lt hh)).trans hh⟩)
theorem below_le {B : Nat} {a b : World} (h : Below B a b) (hB : B ≤ a.heap.size) : B ≤ b.heap.size := Nat.le_trans hB h.size
theorem info82 : (Tryz.prog.info? 82).map (fun i => (i.zero, i.size, i.bytes)) = some (some .nilIface, 1, 16) := by kernel_rfl
theorem make80 : ∃ cs : Array Value, cs.size = 0 ∧ ∀ W : World, (Instr.makeSlice 80 (.int .i64 0) (.int .i64 0)).run Tryz.prog W = .ok (.slice (some ⟨W.heap.size, 0, none⟩) 0 0) (W.alloc (.cells cs 82)) :=
  ⟨madeCells #[.nilIface] 0, by rw [size_madeCells], fun W => run_make_row' (P := Tryz.prog) 80 82 .nilIface 16 Tryz.underlying80 info82 rfl .i64 .i64 0 (by decide) (by decide) W⟩

/-- Blocks that the call has made stand besides. -/
def made (P : Nat → Prop) (w : World) (k : Nat) : Prop := P k ∨ ∃ cs t, w.heap[k]? = some (.cells cs t (0, 0)) ∧ (t = 87 ∨ t = 82 ∨ t = 52)
theorem made_ne {e : TypeId} {k : Nat} {cs : Array Value} (h : w.heap[k]? = some (.cells cs e (0, 0))) (h1 : e ≠ 87) (h2 : e ≠ 82) (h3 : e ≠ 52) (hm : made P w k) : P k := by
  rcases hm with hm | ⟨cs', t, hh, ht⟩
  · exact hm
  · rw [h] at hh
    injection hh with hh
    injection hh with _ he _
    subst he
    rcases ht with h | h | h
    · exact absurd h h1
    · exact absurd h h2
    · exact absurd h h3
theorem Door.types {T : Nat} {rem : List ByteArray} {out : List UInt8} {fds : Bool} (h : Door P w T rem out fds) : Door (made P w) w T rem out fds := by
  obtain ⟨pv, rd, ov, h4, h5, ⟨es, he, h6⟩, h7⟩ := h
  refine ⟨pv, rd, ov, fun h => h4 (made_ne h5 (by decide) (by decide) (by decide) h), h5, ⟨es, he, h6.mono fun k hk hv => ?_⟩, h7.mono fun k hk hv => ?_⟩
  · obtain ⟨_, cs, hh⟩ := h6.block k hv
    exact made_ne hh (by decide) (by decide) (by decide) hk
  · obtain ⟨_, cs, hh⟩ := h7.block k hv
    exact made_ne hh (by decide) (by decide) (by decide) hk

set_option maxRecDepth 100000 in
set_option maxHeartbeats 4000000 in
theorem auth_calls (ok : Bool) (x : List UInt8) (K C T : Nat) (x3 : Value) (cc : Array Value) (A : Option Addr) (n cA : Nat) (ns : List (List UInt8)) (ml : List M4) (hello : ByteArray) (rem : List ByteArray) (out : List UInt8) (fds : Bool)
    (hK : w.heap[K]? = some (.cells #[.pointer (some ⟨C, 0, none⟩), .pointer (some ⟨T, 0, none⟩), x3] 62 (0, 0))) (hC : w.heap[C]? = some (.cells cc 118 (0, 0))) (hc0 : cc[0]? = some (.iface 59 (.pointer (some ⟨T, 0, none⟩)))) (hcs : 10 ≤ cc.size) (hCP : ¬ P C)
    (hD : Door P w T (hello :: rem) out fds) (hP : Lt P w) (hln : LineOf hello (nRej :: ns)) (hns : 0 < ns.length) (hn : ml.length = n) (hm : ReadsM P w A ml) (hn2 : n ≤ 8)
    (hml : ∀ m ∈ ml, (m.k = 0 ∨ m.k = 1 ∨ m.k = 2) ∧ (m.f = 0 ∨ m.f = 1) ∧ m.name.size ≤ 1000 ∧ (ok = true → m.k = 1))
    (hrep : Rep ok x (triedAll ns (ml.map mName)).length [] rem) (hfd : ok = true → fds = false) (hok : ok = true → triedAll ns (ml.map mName) ≠ []) (hout : out.length ≤ 1000) (hN : (triedAll ns (ml.map mName)).length ≤ 1000) :
    Calls Tryz.prog 23 #[.pointer (some ⟨K, 0, none⟩), .slice A n cA] w fun e w' =>
      (ok = false ∧ (∃ t v, e = .returned (.iface t v)) ∧ Door P w' T [] (out ++ [0] ++ (nAuth ++ [13, 10]) ++ (triedAll ns (ml.map mName)).flatMap authLine) fds ∧ Fix P w w' ∧ w'.heap[C]? = some (.cells cc 118 (0, 0))) ∨
      (ok = true ∧ e = .returned .nilIface ∧ (∃ s ∈ ns, Door P w' T [] (out ++ [0] ++ (nAuth ++ [13, 10]) ++ authLine s ++ (nBegin ++ [13, 10])) fds) ∧ Fix P w w' ∧ w'.heap[C]? = some (.cells (cc.setIfInBounds 9 (.string ⟨x.toArray⟩)) 118 (0, 0))) := by
  have HK := Aside0.mk hK
  have HC := Aside0.mk hC
  have HM := Aside0.mk hm
  have HML := Aside0.mk hml
  have HP := Aside0.mk hP
  have HN := Aside0.mk hn
  have HALL := Aside0.mk (And.intro hc0 (And.intro hcs (And.intro hCP (And.intro hD (And.intro hln (And.intro hns (And.intro hrep (And.intro hfd (And.intro hok (And.intro hout hN))))))))))
  clear hK hC hc0 hcs hCP hD hP hln hns hn hm hml hrep hfd hok hout hN
  have hmf : ∀ (fn : Fn) (first cap : Array Value) (w : World), (Instr.makeFunc fn first cap).run Tryz.prog w = .ok (.func fn first cap) w := fun _ _ _ _ => rfl
  obtain ⟨zs, hzs, kmk⟩ := make80
  have HZ := Aside0.mk hzs
  clear hzs
  go_enter_defers Tryz.func23, Tryz.ntmps23
  go_wp2
  go_loopg [5, 12] n (fun q v5 v12 w' => ∃ (i : Nat) (vs : List Value), i ≤ n ∧ Aside0 (q = n - i) ∧ v12 = .int .i64 i ∧ Aside0 (w'.ownsRow (w.heap.size + 1) 82 1 v5 vs.length vs) ∧ Aside0 (vs.length = i ∧ ∀ j, j < i → ∃ mv, vs[j]? = some mv ∧ MV w' mv (mAt ml j)) ∧ Aside0 (Below (w.heap.size + 1) (w.alloc (.cells #[.nilIface] 52)) w'))
  case atStart =>
    refine ⟨0, [], by omega, ⟨by omega⟩, rfl, ⟨?_⟩, ⟨rfl, fun j hj => by omega⟩, ⟨(Below.refl _ _).alloc (by simp) _⟩⟩
    have := World.ownsRow_made (base := w.heap.size + 1) (e := 82) (size := 1) (w.alloc (.cells #[.nilIface] 52)) zs 0 (by simp) (by simp) (by rw [HZ.out])
    simpa using this
  case round =>
    obtain ⟨i, vs, hi, HQ, rfl, HO, HV, HB⟩ := hrel
    have HFX := Aside0.mk (show Fix P w wr from Fix.ofBelow (((Below.refl (w.heap.size) w).alloc (Nat.le_refl _) _).trans (HB.out.mono (by omega))) HP.out)
    by_cases hlt : i < n
    · have hil : i < ml.length := by rw [HN.out]; exact hlt
      obtain ⟨b, o, rfl, _, h0, h1, h2, h3⟩ := (HM.out.fix HFX.out) i hil
      have HMI := Aside0.mk (HML.out (mAt ml i) (by rw [mAt_eq ml i hil]; exact List.getElem_mem hil))
      generalize hmm : mAt ml i = m at h0 h1 h2 h3 HMI
      have HMM := Aside0.mk hmm
      obtain ⟨k, name, f, aa, an, ac⟩ := m
      clear hmm
      simp only at h0 h1 h2 h3
      have HW1 := Aside0.mk (show Below (w.heap.size + 1) (w.alloc (.cells #[.nilIface] 52)) (wr.alloc (.cells #[.int .u8 k, .string name, .int .u8 f, .slice aa an ac] 29)) from HB.out.alloc (by have := HB.out.size; simp at this; omega) _)
      have hvl : vs.length ≤ 8 := by rw [HV.out.1]; omega
      rcases HMI.out.1 with rfl | rfl | rfl
      · have HO2 := Aside0.mk (show (wr.alloc (.cells #[.int .u8 0, .string name, .int .u8 f, .slice aa an ac] 29)).ownsRow (w.heap.size + 1) 82 1 u5 vs.length vs from HO.out.alloc _)
        have HW2 := Aside0.mk (show Below (w.heap.size + 1) (w.alloc (.cells #[.nilIface] 52)) (wr.alloc (.cells #[.int .u8 0, .string name, .int .u8 f, .slice aa an ac] 29)) from HW1.out)
        have HBE := Aside0.mk (show Below wr.heap.size wr (wr.alloc (.cells #[.int .u8 0, .string name, .int .u8 f, .slice aa an ac] 29)) from (Below.refl _ wr).alloc (Nat.le_refl _) _)
        have HLW := Aside0.mk (show w.heap.size + 1 ≤ (w.alloc (.cells #[.nilIface] 52)).heap.size by simp)
        go_wp2_with (first | ((with_reducible refine gate_builtin (b := .append) (xs := #[.tmp 27, .tmp 31]) rfl ?_); at_builtin; refine print_append (w0 := w.alloc (.cells #[.nilIface] 52)) (W := wr.alloc (.cells #[.int .u8 0, .string name, .int .u8 f, .slice aa an ac] 29)) (w.heap.size + 1) rfl (.tmp 27) (.tmp 31) 80 82 .nilIface 16 rfl Tryz.underlying80 info82 rfl (by decide) u5 vs _ rfl (by simp [Act.eval]) rfl HO2.out HW2.out ?r2 ?r3 ?_; (case r2 => exact below_le HW2.out HLW.out); (case r3 => omega); intro v1 w1 ho hb hg hat; have HO1 := Aside0.mk ho; have HB1 := Aside0.mk hb; have HG1 := Aside0.mk hg; clear ho hb hg hat) | go_in)
        go_roundg (n - (i+1))
        case measure => have := HQ.out; omega
        case rel =>
          refine ⟨i + 1, _, by omega, ⟨rfl⟩, by go_num, HO1, ⟨by simp [HV.out.1], fun j hj => ?_⟩, HB1⟩
          by_cases hji : j < i
          · obtain ⟨mv, e, hmv⟩ := HV.out.2 j hji
            exact ⟨mv, by rw [List.getElem?_append_left (by rw [HV.out.1]; exact hji)]; exact e, (hmv.below HBE.out).grown HO2.out HG1.out⟩
          · obtain rfl : j = i := by omega
            refine ⟨_, by rw [List.getElem?_append_right (by rw [HV.out.1]; exact Nat.le_refl _), HV.out.1, Nat.sub_self]; rfl, ?_⟩
            rw [HMM.out]
            exact .inl ⟨rfl, rfl⟩
      · have HO2 := Aside0.mk (show ((wr.alloc (.cells #[.int .u8 1, .string name, .int .u8 f, .slice aa an ac] 29)).alloc (.cells #[] 159)).ownsRow (w.heap.size + 1) 82 1 u5 vs.length vs from (HO.out.alloc _).alloc _)
        have HW2 := Aside0.mk (show Below (w.heap.size + 1) (w.alloc (.cells #[.nilIface] 52)) ((wr.alloc (.cells #[.int .u8 1, .string name, .int .u8 f, .slice aa an ac] 29)).alloc (.cells #[] 159)) from HW1.out.alloc (by have := HW1.out.size; simp at this ⊢; omega) _)
        have HBE := Aside0.mk (show Below wr.heap.size wr ((wr.alloc (.cells #[.int .u8 1, .string name, .int .u8 f, .slice aa an ac] 29)).alloc (.cells #[] 159)) from ((Below.refl _ wr).alloc (Nat.le_refl _) _).alloc (by simp) _)
        have HLW := Aside0.mk (show w.heap.size + 1 ≤ (w.alloc (.cells #[.nilIface] 52)).heap.size by simp)
        go_wp2_with (first | ((with_reducible refine gate_builtin (b := .append) (xs := #[.tmp 35, .tmp 37]) rfl ?_); at_builtin; refine print_append (w0 := w.alloc (.cells #[.nilIface] 52)) (W := (wr.alloc (.cells #[.int .u8 1, .string name, .int .u8 f, .slice aa an ac] 29)).alloc (.cells #[] 159)) (w.heap.size + 1) rfl (.tmp 35) (.tmp 37) 80 82 .nilIface 16 rfl Tryz.underlying80 info82 rfl (by decide) u5 vs _ rfl (by simp [Act.eval]) rfl HO2.out HW2.out ?r2 ?r3 ?_; (case r2 => exact below_le HW2.out HLW.out); (case r3 => omega); intro v1 w1 ho hb hg hat; have HO1 := Aside0.mk ho; have HB1 := Aside0.mk hb; have HG1 := Aside0.mk hg; clear ho hb hg hat) | go_in)
        go_roundg (n - (i+1))
        case measure => have := HQ.out; omega
        case rel =>
          refine ⟨i + 1, _, by omega, ⟨rfl⟩, by go_num, HO1, ⟨by simp [HV.out.1], fun j hj => ?_⟩, HB1⟩
          by_cases hji : j < i
          · obtain ⟨mv, e, hmv⟩ := HV.out.2 j hji
            exact ⟨mv, by rw [List.getElem?_append_left (by rw [HV.out.1]; exact hji)]; exact e, (hmv.below HBE.out).grown HO2.out HG1.out⟩
          · obtain rfl : j = i := by omega
            refine ⟨_, by rw [List.getElem?_append_right (by rw [HV.out.1]; exact Nat.le_refl _), HV.out.1, Nat.sub_self]; rfl, ?_⟩
            rw [HMM.out]
            exact .inr (.inl ⟨rfl, _, rfl⟩)
      · have HO2 := Aside0.mk (show ((wr.alloc (.cells #[.int .u8 2, .string name, .int .u8 f, .slice aa an ac] 29)).alloc (.cells #[.int .u8 2, .string name, .int .u8 f, .slice aa an ac, .int .i64 0] 87)).ownsRow (w.heap.size + 1) 82 1 u5 vs.length vs from (HO.out.alloc _).alloc _)
        have HW2 := Aside0.mk (show Below (w.heap.size + 1) (w.alloc (.cells #[.nilIface] 52)) ((wr.alloc (.cells #[.int .u8 2, .string name, .int .u8 f, .slice aa an ac] 29)).alloc (.cells #[.int .u8 2, .string name, .int .u8 f, .slice aa an ac, .int .i64 0] 87)) from HW1.out.alloc (by have := HW1.out.size; simp at this ⊢; omega) _)
        have HBE := Aside0.mk (show Below wr.heap.size wr ((wr.alloc (.cells #[.int .u8 2, .string name, .int .u8 f, .slice aa an ac] 29)).alloc (.cells #[.int .u8 2, .string name, .int .u8 f, .slice aa an ac, .int .i64 0] 87)) from ((Below.refl _ wr).alloc (Nat.le_refl _) _).alloc (by simp) _)
        have HLW := Aside0.mk (show w.heap.size + 1 ≤ (w.alloc (.cells #[.nilIface] 52)).heap.size by simp)
        go_wp2_with (first | ((with_reducible refine gate_builtin (b := .append) (xs := #[.tmp 18, .tmp 23]) rfl ?_); at_builtin; refine print_append (w0 := w.alloc (.cells #[.nilIface] 52)) (W := (wr.alloc (.cells #[.int .u8 2, .string name, .int .u8 f, .slice aa an ac] 29)).alloc (.cells #[.int .u8 2, .string name, .int .u8 f, .slice aa an ac, .int .i64 0] 87)) (w.heap.size + 1) rfl (.tmp 18) (.tmp 23) 80 82 .nilIface 16 rfl Tryz.underlying80 info82 rfl (by decide) u5 vs _ rfl (by simp [Act.eval]) rfl HO2.out HW2.out ?r2 ?r3 ?_; (case r2 => exact below_le HW2.out HLW.out); (case r3 => omega); intro v1 w1 ho hb hg hat; have HO1 := Aside0.mk ho; have HB1 := Aside0.mk hb; have HG1 := Aside0.mk hg; clear ho hb hg hat) | go_in)
        go_roundg (n - (i+1))
        case measure => have := HQ.out; omega
        case rel =>
          refine ⟨i + 1, _, by omega, ⟨rfl⟩, by go_num, HO1, ⟨by simp [HV.out.1], fun j hj => ?_⟩, HB1⟩
          by_cases hji : j < i
          · obtain ⟨mv, e, hmv⟩ := HV.out.2 j hji
            exact ⟨mv, by rw [List.getElem?_append_left (by rw [HV.out.1]; exact hji)]; exact e, (hmv.below HBE.out).grown HO2.out HG1.out⟩
          · obtain rfl : j = i := by omega
            refine ⟨_, by rw [List.getElem?_append_right (by rw [HV.out.1]; exact Nat.le_refl _), HV.out.1, Nat.sub_self]; rfl, ?_⟩
            rw [HMM.out]
            exact (show MV _ _ _ from .inr (.inr ⟨rfl, _, rfl, by have := heap_alloc_new (wr.alloc (.cells #[.int .u8 2, .string name, .int .u8 f, .slice aa an ac] 29)) (.cells #[.int .u8 2, .string name, .int .u8 f, .slice aa an ac, .int .i64 0] 87); simpa using this⟩)).grown HO2.out HG1.out
    · have hin : i = n := by omega
      subst hin
      obtain ⟨hc0, hcs, hCP, hD, hln, hns, hrep, hfd, hok, hout, hN⟩ := HALL.out
      have HBW := Aside0.mk (show Below w.heap.size w wr from ((Below.refl w.heap.size w).alloc (Nat.le_refl _) _).trans (HB.out.mono (by omega)))
      obtain ⟨A2, c2, rfl⟩ := own_slice HO.out
      have HR0 := Aside0.mk (show wr.heap[w.heap.size]? = some (.cells #[.nilIface] 52 (0, 0)) from (HB.out.block _ (by omega)).trans (heap_alloc_new w _))
      have HCR := Aside0.mk (show wr.heap[C]? = _ from (HBW.out.block C (blk_lt HC.out)).trans HC.out)
      have cK0 := blk_cell (show wr.heap[K]? = _ from (HBW.out.block K (blk_lt HK.out)).trans HK.out) 0
      have hDT : Door (made P wr) wr T (hello :: rem) out fds := (hD.below HBW.out).types
      have hPM : ∀ k, P k → made P wr k := fun k hk => .inl hk
      have hLM : Lt (made P wr) wr := fun k hk => by
        rcases hk with hk | ⟨cs, t, h, _⟩
        · exact Nat.lt_of_lt_of_le (HP.out k hk) HBW.out.size
        · exact (Array.getElem?_eq_some_iff.1 h).1
      have HLM := Aside0.mk hLM
      have hCM : ¬ made P wr C := fun h => by
        rcases h with h | ⟨cs, t, h, ht⟩
        · exact hCP h
        · rw [HCR.out] at h
          injection h with h
          injection h with _ h2 _
          subst h2
          rcases ht with h | h | h <;> exact absurd h (by decide)
      have hvi : vs.length = i := HV.out.1
      have HAU := Aside0.mk (Auth_calls (P := made P wr) (w := wr) ok x C T cc A2 vs.length c2 ns (ml.map mName) hello rem out fds HCR.out hc0 hcs hCM hDT hLM hln hns (by rw [List.length_map, HN.out, hvi])
        (fun j hj => by
          have hj' : j < ml.length := by simpa using hj
          obtain ⟨mv, e, hmv⟩ := HV.out.2 j (by rw [← HN.out]; exact hj')
          obtain ⟨hk, hf, hs, ho1⟩ := HML.out (mAt ml j) (by rw [mAt_eq ml j hj']; exact List.getElem_mem hj')
          have hA : ∃ g, A2 = some ⟨g, 0, none⟩ := by
            obtain ⟨g, cap, he, _⟩ := HO.out.form (by rw [hvi, ← HN.out]; omega)
            injection he with he
            exact ⟨g, he⟩
          obtain ⟨g, rfl⟩ := hA
          have hg : ∃ cs, wr.heap[g]? = some (.cells cs 82 (0, 0)) := own_typed HO.out g rfl
          obtain ⟨cs, hg⟩ := hg
          have hcell := HO.out.cells (g := g) rfl j mv e
          rw [add_at] at hcell
          have hnm : nAt (ml.map mName) j = mName (mAt ml j) := by rw [nAt_eq _ _ hj, List.getElem_map, mAt_eq ml j hj']
          rw [hnm]
          refine ⟨g, 0, mv, if (mAt ml j).k = 2 then (mAt ml j).f else 0, rfl, .inr ⟨cs, 82, hg, .inr (.inl rfl)⟩, hcell, ?_, fun hok1 => by rw [if_neg (by rw [ho1 hok1]; decide)]⟩
          rcases hmv with ⟨h0, rfl⟩ | ⟨h1, b, rfl⟩ | ⟨h2, b, rfl, hh⟩
          · refine .inl ⟨_, rfl, by omega, by rw [mName, if_pos h0], by rw [if_neg (by rw [h0]; decide)]⟩
          · refine .inr (.inl ⟨b, rfl, by rw [mName, if_neg (by rw [h1]; decide), if_pos h1], by rw [if_neg (by rw [h1]; decide)]⟩)
          · refine .inr (.inr ⟨b, _, _, _, _, rfl, .inr ⟨_, 87, hh, .inl rfl⟩, hh, by omega, hf, by rw [mName, if_neg (by rw [h2]; decide), if_neg (by rw [h2]; decide)], by rw [if_pos h2]⟩))
        (by omega) hrep hfd hok hout hN)
      clear hc0 hcs hCP hD hln hns hrep hfd hok hout hN hDT hLM hCM HALL
      rw [hvi] at HAU HO
      go_wp2_with (go_at_call 38; refine HAU.out.mono ?_)
      rintro e w2 (⟨hok1, ⟨t, v, rfl⟩, hd, hf, hc⟩ | ⟨hok1, rfl, ⟨s, hs, hd⟩, hf, hc⟩)
      · have HO1 := Aside0.mk hok1
        clear hok1
        have HR2 := Aside0.mk (show w2.heap[w.heap.size]? = some (.cells #[.nilIface] 52 (0, 0)) from (hf.block _ (.inr ⟨_, 52, HR0.out, .inr (.inr rfl)⟩)).trans HR0.out)
        have r0 := blk_cell HR2.out 0
        have f0 := blk_frozen HR2.out 0
        have r1 : (w2.setCell ⟨w.heap.size, 0, none⟩ (.iface t v)).cell? ⟨w.heap.size, 0, none⟩ = some (.iface t v) := by
          rw [Lib.cell_of_heap (blk_set HR2.out 0 (.iface t v))]; rfl
        have hfin : Door P (w2.setCell ⟨w.heap.size, 0, none⟩ (.iface t v)) T [] _ fds := (hd.stays fun k hk _ => Below.heap_setCell _ _ _ _ (fun e => hk (e ▸ .inr ⟨_, 52, HR0.out, .inr (.inr rfl)⟩))).mono fun k hk => .inl hk
        have hfix : Fix P w (w2.setCell ⟨w.heap.size, 0, none⟩ (.iface t v)) := (HFX.out.trans (hf.mono fun k hk => .inl hk)).trans (Fix.setCell (fun h => absurd (HP.out _ h) (Nat.lt_irrefl _)) _)
        have hcf := (Below.heap_setCell w2 ⟨w.heap.size, 0, none⟩ (.iface t v) C (by have := blk_lt HC.out; show C ≠ w.heap.size; omega)).trans hc
        have HFIN := Aside0.mk (And.intro hfin (And.intro hfix hcf))
        clear hfin hfix hcf hd hf hc
        go_wp2
        refine leaves_cons (f := 35) (args := #[.pointer (some ⟨w.heap.size, 0, none⟩)]) (by simp) (by simp [go_sem]) ?_
        refine (catch_idle ⟨w.heap.size, 0, none⟩ _).mono ?_
        rintro e u' w'' ⟨rfl, rfl, rfl⟩
        refine ⟨_, res23 _ _ _ _ rfl r1, ?_⟩
        exact .inl ⟨HO1.out, ⟨t, v, rfl⟩, HFIN.out⟩
      · have HO1 := Aside0.mk (And.intro hok1 hs)
        clear hok1 hs
        have HR2 := Aside0.mk (show w2.heap[w.heap.size]? = some (.cells #[.nilIface] 52 (0, 0)) from (hf.block _ (.inr ⟨_, 52, HR0.out, .inr (.inr rfl)⟩)).trans HR0.out)
        have r0 := blk_cell HR2.out 0
        have f0 := blk_frozen HR2.out 0
        have r1 : (w2.setCell ⟨w.heap.size, 0, none⟩ .nilIface).cell? ⟨w.heap.size, 0, none⟩ = some .nilIface := by
          rw [Lib.cell_of_heap (blk_set HR2.out 0 .nilIface)]; rfl
        have hfin : Door P (w2.setCell ⟨w.heap.size, 0, none⟩ .nilIface) T [] _ fds := (hd.stays fun k hk _ => Below.heap_setCell _ _ _ _ (fun e => hk (e ▸ .inr ⟨_, 52, HR0.out, .inr (.inr rfl)⟩))).mono fun k hk => .inl hk
        have hfix : Fix P w (w2.setCell ⟨w.heap.size, 0, none⟩ .nilIface) := (HFX.out.trans (hf.mono fun k hk => .inl hk)).trans (Fix.setCell (fun h => absurd (HP.out _ h) (Nat.lt_irrefl _)) _)
        have hcf := (Below.heap_setCell w2 ⟨w.heap.size, 0, none⟩ .nilIface C (by have := blk_lt HC.out; show C ≠ w.heap.size; omega)).trans hc
        have HFIN := Aside0.mk (And.intro hfin (And.intro hfix hcf))
        clear hfin hfix hcf hd hf hc
        go_wp2
        refine leaves_cons (f := 35) (args := #[.pointer (some ⟨w.heap.size, 0, none⟩)]) (by simp) (by simp [go_sem]) ?_
        refine (catch_idle ⟨w.heap.size, 0, none⟩ _).mono ?_
        rintro e u' w'' ⟨rfl, rfl, rfl⟩
        refine ⟨_, res23 _ _ _ _ rfl r1, ?_⟩
        exact .inr ⟨HO1.out.1, rfl, ⟨s, HO1.out.2, HFIN.out.1⟩, HFIN.out.2⟩
end Go.Proofs.YtkmdjpinpjcndaaGreatDoor

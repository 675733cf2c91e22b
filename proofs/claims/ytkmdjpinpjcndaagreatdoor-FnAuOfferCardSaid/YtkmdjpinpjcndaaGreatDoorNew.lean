/-
  A conversation made: a connection over the peer's door.
-/
import Derived.Test.YtkmdjpinpjcndaaGreatDoorConn
namespace Go.Proofs.YtkmdjpinpjcndaaGreatDoor
open Go.RowKit Go.Proofs.YtkmdjpinpjcndaaGreatDoorW.PrintWords Go.Maps
variable {P D : Nat → Prop} {w w1 w2 : World}

theorem call33 (fv : Value) (w : World) (hfv : ∃ f a b, fv = .func f a b) : Calls Tryz.prog 33 #[fv] w fun e w' => e = .returned (.func (.func 48) #[] #[.pointer (some ⟨w.heap.size, 0, none⟩)]) ∧ w.alloc (.cells #[fv] 112) = w' := by
  obtain ⟨f, a, b, rfl⟩ := hfv
  go_enter Tryz.func33, Tryz.ntmps33
  go_wp2
  go_ret
  exact ⟨rfl, rfl⟩

theorem call41 (w : World) : Calls Tryz.prog 41 #[] w fun e w' => (∃ b, e = .returned (.pointer (some ⟨b, 0, none⟩))) ∧ Below w.heap.size w w' := by
  go_enter Tryz.func41, Tryz.ntmps41
  go_wp2
  go_ret
  exact ⟨⟨_, rfl⟩, (Below.refl _ w).alloc (Nat.le_refl _) _⟩
theorem call42 (w : World) : Calls Tryz.prog 42 #[] w fun e w' => (∃ b, e = .returned (.pointer (some ⟨b, 0, none⟩))) ∧ Below w.heap.size w w' := by
  have hmm := @run_makeMap Tryz.prog
  go_enter Tryz.func42, Tryz.ntmps42
  go_wp2
  go_ret
  exact ⟨⟨_, rfl⟩, ((Below.refl _ w).alloc (Nat.le_refl _) _).alloc (by simp) _⟩
theorem call44 (w : World) : Calls Tryz.prog 44 #[] w fun e w' => (∃ b, e = .returned (.pointer (some ⟨b, 0, none⟩))) ∧ Below w.heap.size w w' := by
  go_enter Tryz.func44, Tryz.ntmps44
  go_wp2
  go_ret
  exact ⟨⟨_, rfl⟩, (Below.refl _ w).alloc (Nat.le_refl _) _⟩
theorem call46 (w : World) : Calls Tryz.prog 46 #[] w fun e w' => (∃ b, e = .returned (.pointer (some ⟨b, 0, none⟩))) ∧ Below w.heap.size w w' := by
  have hmm := @run_makeMap Tryz.prog
  go_enter Tryz.func46, Tryz.ntmps46
  go_wp2
  go_ret
  exact ⟨⟨_, rfl⟩, ((Below.refl _ w).alloc (Nat.le_refl _) _).alloc (by simp) _⟩
theorem call47 (C : Nat) (s1 s2 : ByteArray) (w : World) : Calls Tryz.prog 47 #[.pointer (some ⟨C, 0, none⟩), .string s1, .string s2] w fun e w' => (∃ b, e = .returned (.iface 200 (.pointer (some ⟨b, 0, none⟩)))) ∧ Below w.heap.size w w' := by
  go_enter Tryz.func47, Tryz.ntmps47
  go_wp2
  go_ret
  exact ⟨⟨_, rfl⟩, (Below.refl _ w).alloc (Nat.le_refl _) _⟩
theorem below_set' {B : Nat} {a w : World} (h : Below B a w) (j : Nat) (u : Value) : Below B a (w.setCell ⟨B, j, none⟩ u) := h.setCell (Nat.le_refl _) u
/-- A connection's block. -/
def IsC (W : World) (k : Nat) : Prop := ∃ cc, W.heap[k]? = some (.cells cc 118 (0, 0))
theorem IsC.lt {W : World} {k : Nat} (h : IsC W k) : k < W.heap.size := by
  obtain ⟨cc, h⟩ := h
  exact blk_lt h
theorem IsC.alloc {W : World} {k : Nat} (h : IsC W k) (o : Obj) : IsC (W.alloc o) k := by
  have hlt := h.lt
  obtain ⟨cc, h⟩ := h
  exact ⟨cc, (Below.heap_alloc W o k hlt).trans h⟩
theorem IsC.set {W : World} {k : Nat} (h : IsC W k) (a : Addr) (v : Value) : IsC (W.setCell a v) k := by
  obtain ⟨cc, h⟩ := h
  by_cases hk : k = a.block
  · obtain ⟨b, o, sp⟩ := a
    subst hk
    exact ⟨_, by simp only [World.setCell, Array.getElem?_modify]; rw [h]; simp; rfl⟩
  · exact ⟨cc, (Below.heap_setCell W a v k hk).trans h⟩
theorem IsC.below {W W' : World} {k : Nat} (h : IsC W k) (hb : Below W.heap.size W W') : IsC W' k := by
  have hlt := h.lt
  obtain ⟨cc, h⟩ := h
  exact ⟨cc, (hb.block k hlt).trans h⟩
theorem IsC.drew {W : World} {k : Nat} (h : IsC W k) (n : Nat) : IsC (W.drewN n) k := h

set_option maxRecDepth 100000 in
set_option maxHeartbeats 4000000 in
theorem newConn_calls (T ob cb kb : Nat) (w : World) (ho : w.cell? ⟨ob, 0, none⟩ = some (.func (.func 48) #[] #[.pointer (some ⟨cb, 0, none⟩)])) (hc : w.cell? ⟨cb, 0, none⟩ = some (.func (.func 34) #[.pointer (some ⟨kb, 0, none⟩)] #[])) :
    Calls Tryz.prog 32 #[.iface 59 (.pointer (some ⟨T, 0, none⟩)), .slice (some ⟨ob, 0, none⟩) 1 1] w fun e w' => ∃ C cc, e = .returned (.tuple #[.pointer (some ⟨C, 0, none⟩), .nilIface]) ∧ w'.heap[C]? = some (.cells cc 118 (0, 0)) ∧ cc[0]? = some (.iface 59 (.pointer (some ⟨T, 0, none⟩))) ∧ 10 ≤ cc.size ∧ cc[8]? = some (.bool false) ∧ cc[9]? = some (.string ⟨#[]⟩) ∧ w.heap.size ≤ C ∧ Below w.heap.size w w' := by
  have hmm := @run_makeMap Tryz.prog
  have kst : ∀ (a : Addr) (W : World), (store a (.func (.func 34) #[.pointer (some ⟨kb, 0, none⟩)] #[])).run Tryz.prog W = match W.cell? a with
      | some _ => if W.frozen? a then .halt (.unsupported (.unsafePointer "a write to bytes that a string shares")) W else .ok () (W.setCell a (.func (.func 34) #[.pointer (some ⟨kb, 0, none⟩)] #[]))
      | none => match W.farStore Tryz.prog a (.func (.func 34) #[.pointer (some ⟨kb, 0, none⟩)] #[]) false with
        | .ok (w', _) => .ok () w'
        | .error h => .halt h W := fun a W => run_store Tryz.prog W a _ .plain rfl
  have hol := World.block_lt_of_cell? w _ ho
  have hcl := World.block_lt_of_cell? w _ hc
  go_enter Tryz.func32, Tryz.ntmps32
  go_wp2
  refine wp_loop_rounds 2 ?_
  rw [rounds_succ]
  go_wp2
  rw [rounds_succ]
  go_wp2_with (first
    | (go_at_call 41; refine (call41 _).mono ?_; rintro e w41 ⟨⟨b41, rfl⟩, hb⟩; have HB41 := Aside0.mk hb; have hc41 : ∀ j, w41.cell? ⟨w.heap.size, j, none⟩ = _ := fun j => hb.cell (p := ⟨w.heap.size, j, none⟩) (by simp; try omega); have hf41 : ∀ j, w41.frozen? ⟨w.heap.size, j, none⟩ = _ := fun j => hb.frozen (p := ⟨w.heap.size, j, none⟩) (by simp; try omega); have hl41 : w.heap.size < w41.heap.size := Nat.lt_of_lt_of_le (by simp; try omega) hb.size; clear hb)
    | (go_at_call 42; refine (call42 _).mono ?_; rintro e w42 ⟨⟨b42, rfl⟩, hb⟩; have HB42 := Aside0.mk hb; have hc42 : ∀ j, w42.cell? ⟨w.heap.size, j, none⟩ = _ := fun j => hb.cell (p := ⟨w.heap.size, j, none⟩) (by simp; try omega); have hf42 : ∀ j, w42.frozen? ⟨w.heap.size, j, none⟩ = _ := fun j => hb.frozen (p := ⟨w.heap.size, j, none⟩) (by simp; try omega); have hl42 : w.heap.size < w42.heap.size := Nat.lt_of_lt_of_le (by simp; try omega) hb.size; clear hb)
    | (go_at_call 43; refine (call43 _).mono ?_; rintro e w43 ⟨⟨b43, rfl⟩, hb⟩; have HB43 := Aside0.mk hb; have hc43 : ∀ j, w43.cell? ⟨w.heap.size, j, none⟩ = _ := fun j => hb.cell (p := ⟨w.heap.size, j, none⟩) (by simp; try omega); have hf43 : ∀ j, w43.frozen? ⟨w.heap.size, j, none⟩ = _ := fun j => hb.frozen (p := ⟨w.heap.size, j, none⟩) (by simp; try omega); have hl43 : w.heap.size < w43.heap.size := Nat.lt_of_lt_of_le (by simp; try omega) hb.size; clear hb)
    | (go_at_call 44; refine (call44 _).mono ?_; rintro e w44 ⟨⟨b44, rfl⟩, hb⟩; have HB44 := Aside0.mk hb; have hc44 : ∀ j, w44.cell? ⟨w.heap.size, j, none⟩ = _ := fun j => hb.cell (p := ⟨w.heap.size, j, none⟩) (by simp; try omega); have hf44 : ∀ j, w44.frozen? ⟨w.heap.size, j, none⟩ = _ := fun j => hb.frozen (p := ⟨w.heap.size, j, none⟩) (by simp; try omega); have hl44 : w.heap.size < w44.heap.size := Nat.lt_of_lt_of_le (by simp; try omega) hb.size; clear hb)
    | (go_at_call 45; refine (call45 _).mono ?_; rintro e w45 ⟨⟨b45, rfl⟩, hb⟩; have HB45 := Aside0.mk hb; have hc45 : ∀ j, w45.cell? ⟨w.heap.size, j, none⟩ = _ := fun j => hb.cell (p := ⟨w.heap.size, j, none⟩) (by simp; try omega); have hf45 : ∀ j, w45.frozen? ⟨w.heap.size, j, none⟩ = _ := fun j => hb.frozen (p := ⟨w.heap.size, j, none⟩) (by simp; try omega); have hl45 : w.heap.size < w45.heap.size := Nat.lt_of_lt_of_le (by simp; try omega) hb.size; clear hb)
    | (go_at_call 46; refine (call46 _).mono ?_; rintro e w46 ⟨⟨b46, rfl⟩, hb⟩; have HB46 := Aside0.mk hb; have hc46 : ∀ j, w46.cell? ⟨w.heap.size, j, none⟩ = _ := fun j => hb.cell (p := ⟨w.heap.size, j, none⟩) (by simp; try omega); have hf46 : ∀ j, w46.frozen? ⟨w.heap.size, j, none⟩ = _ := fun j => hb.frozen (p := ⟨w.heap.size, j, none⟩) (by simp; try omega); have hl46 : w.heap.size < w46.heap.size := Nat.lt_of_lt_of_le (by simp; try omega) hb.size; clear hb)
    | (go_at_call 47; refine (call47 _ _ _ _).mono ?_; rintro e w47 ⟨⟨b47, rfl⟩, hb⟩; have HB47 := Aside0.mk hb; have hc47 : ∀ j, w47.cell? ⟨w.heap.size, j, none⟩ = _ := fun j => hb.cell (p := ⟨w.heap.size, j, none⟩) (by simp; try omega); have hf47 : ∀ j, w47.frozen? ⟨w.heap.size, j, none⟩ = _ := fun j => hb.frozen (p := ⟨w.heap.size, j, none⟩) (by simp; try omega); have hl47 : w.heap.size < w47.heap.size := Nat.lt_of_lt_of_le (by simp; try omega) hb.size; clear hb))
  go_ret2
  have hI : IsC (w47.setCell ⟨w.heap.size, 7, none⟩ (.iface 200 (.pointer (some ⟨b47, 0, none⟩)))) w.heap.size := by
    repeat (first
      | exact ⟨_, heap_alloc_new w _⟩
      | refine IsC.set ?_ _ _
      | refine IsC.below ?_ HB47.out
      | refine IsC.below ?_ HB46.out
      | refine IsC.below ?_ HB45.out
      | refine IsC.below ?_ HB44.out
      | refine IsC.below ?_ HB43.out
      | refine IsC.below ?_ HB42.out
      | refine IsC.below ?_ HB41.out
      | refine IsC.alloc ?_ _)
  have hB : Below w.heap.size w (w47.setCell ⟨w.heap.size, 7, none⟩ (.iface 200 (.pointer (some ⟨b47, 0, none⟩)))) := by
    repeat (first
      | exact (Below.refl _ w).alloc (Nat.le_refl _) _
      | refine below_set' ?_ _ _
      | refine Below.trans ?_ (HB47.out.mono (by simp; try omega))
      | refine Below.trans ?_ (HB46.out.mono (by simp; try omega))
      | refine Below.trans ?_ (HB45.out.mono (by simp; try omega))
      | refine Below.trans ?_ (HB44.out.mono (by simp; try omega))
      | refine Below.trans ?_ (HB43.out.mono (by simp; try omega))
      | refine Below.trans ?_ (HB42.out.mono (by simp; try omega))
      | refine Below.trans ?_ (HB41.out.mono (by simp; try omega))
      | refine Below.alloc ?_ (by simp; try omega) _)
  have k0 : (w47.setCell ⟨w.heap.size, 7, none⟩ (.iface 200 (.pointer (some ⟨b47, 0, none⟩)))).cell? ⟨w.heap.size, 0, none⟩ = some (.iface 59 (.pointer (some ⟨T, 0, none⟩))) := by go_simp
  have k8 : (w47.setCell ⟨w.heap.size, 7, none⟩ (.iface 200 (.pointer (some ⟨b47, 0, none⟩)))).cell? ⟨w.heap.size, 8, none⟩ = some (.bool false) := by go_simp
  have k9 : (w47.setCell ⟨w.heap.size, 7, none⟩ (.iface 200 (.pointer (some ⟨b47, 0, none⟩)))).cell? ⟨w.heap.size, 9, none⟩ = some (.string ⟨#[]⟩) := by go_simp
  obtain ⟨cc, hcc⟩ := hI
  have g0 := (blk_cell hcc 0).symm.trans k0
  have g8 := (blk_cell hcc 8).symm.trans k8
  have g9 := (blk_cell hcc 9).symm.trans k9
  exact ⟨_, cc, rfl, hcc, g0, by have := (Array.getElem?_eq_some_iff.1 g9).1; omega, g8, g9, Nat.le_refl _, hB⟩

set_option maxRecDepth 100000 in
set_option maxHeartbeats 2000000 in
theorem New_calls (fds : Bool) (w : World) : Calls Tryz.prog 21 #[.bool fds] w fun e w' => ∃ K T C cc, e = .returned (.tuple #[.pointer (some ⟨K, 0, none⟩), .nilIface]) ∧ w.heap.size ≤ K ∧ w.heap.size ≤ C ∧ w'.heap[K]? = some (.cells #[.pointer (some ⟨C, 0, none⟩), .pointer (some ⟨T, 0, none⟩), .slice none 0 0] 62 (0, 0)) ∧
      w'.heap[C]? = some (.cells cc 118 (0, 0)) ∧ cc[0]? = some (.iface 59 (.pointer (some ⟨T, 0, none⟩))) ∧ 10 ≤ cc.size ∧ cc[8]? = some (.bool false) ∧ cc[9]? = some (.string ⟨#[]⟩) ∧ Door (fun k => k < w.heap.size) w' T [] [] fds ∧ Below w.heap.size w w' := by
  generalize hW : ((((w.alloc (.cells #[.slice none 0 0, .int .i64 0, .slice none 0 0, .bool fds, .bool false] 73)).alloc (.cells #[.pointer none, .pointer (some ⟨w.heap.size, 0, none⟩), .slice none 0 0] 62)).alloc (.cells #[.func (.func 34) #[.pointer (some ⟨w.heap.size + 1, 0, none⟩)] #[]] 112)).alloc (.cells #[.func (.func 48) #[] #[.pointer (some ⟨w.heap.size + 1 + 1, 0, none⟩)]] 77)) = W
  have HB := Aside0.mk (show Below w.heap.size w W by
    rw [← hW]
    exact ((((Below.refl _ w).alloc (Nat.le_refl _) _).alloc (by simp) _).alloc (by simp; omega) _).alloc (by simp; omega) _)
  have HSZ := Aside0.mk (show W.heap.size = w.heap.size + 1 + 1 + 1 + 1 by rw [← hW]; simp)
  have s1 : (w.alloc (.cells #[.slice none 0 0, .int .i64 0, .slice none 0 0, .bool fds, .bool false] 73)).heap.size = w.heap.size + 1 := by simp
  have s2 : ((w.alloc (.cells #[.slice none 0 0, .int .i64 0, .slice none 0 0, .bool fds, .bool false] 73)).alloc (.cells #[.pointer none, .pointer (some ⟨w.heap.size, 0, none⟩), .slice none 0 0] 62)).heap.size = w.heap.size + 1 + 1 := by simp
  have s3 : (((w.alloc (.cells #[.slice none 0 0, .int .i64 0, .slice none 0 0, .bool fds, .bool false] 73)).alloc (.cells #[.pointer none, .pointer (some ⟨w.heap.size, 0, none⟩), .slice none 0 0] 62)).alloc (.cells #[.func (.func 34) #[.pointer (some ⟨w.heap.size + 1, 0, none⟩)] #[]] 112)).heap.size = w.heap.size + 1 + 1 + 1 := by simp
  have HT := Aside0.mk (show W.heap[w.heap.size]? = some (.cells #[.slice none 0 0, .int .i64 0, .slice none 0 0, .bool fds, .bool false] 73) by
    rw [← hW, Below.heap_alloc _ _ _ (by rw [s3]; omega), Below.heap_alloc _ _ _ (by rw [s2]; omega), Below.heap_alloc _ _ _ (by rw [s1]; omega)]
    exact heap_alloc_new w _)
  have HK := Aside0.mk (show W.heap[w.heap.size + 1]? = some (.cells #[.pointer none, .pointer (some ⟨w.heap.size, 0, none⟩), .slice none 0 0] 62) by
    rw [← hW, Below.heap_alloc _ _ _ (by rw [s3]; omega), Below.heap_alloc _ _ _ (by rw [s2]; omega), ← s1]
    exact heap_alloc_new _ _)
  have h2 : W.cell? ⟨w.heap.size + 1 + 1, 0, none⟩ = some (.func (.func 34) #[.pointer (some ⟨w.heap.size + 1, 0, none⟩)] #[]) := by
    rw [Lib.cell_of_heap (show W.heap[w.heap.size + 1 + 1]? = some (.cells #[.func (.func 34) #[.pointer (some ⟨w.heap.size + 1, 0, none⟩)] #[]] 112) by
      rw [← hW, Below.heap_alloc _ _ _ (by rw [s3]; omega), ← s2]
      exact heap_alloc_new _ _)]
    rfl
  have h3 : W.cell? ⟨w.heap.size + 1 + 1 + 1, 0, none⟩ = some (.func (.func 48) #[] #[.pointer (some ⟨w.heap.size + 1 + 1, 0, none⟩)]) := by
    rw [Lib.cell_of_heap (show W.heap[w.heap.size + 1 + 1 + 1]? = some (.cells #[.func (.func 48) #[] #[.pointer (some ⟨w.heap.size + 1 + 1, 0, none⟩)]] 77) by
      rw [← hW, ← s3]
      exact heap_alloc_new _ _)]
    rfl
  clear s1 s2 s3
  have HNC := Aside0.mk (newConn_calls w.heap.size (w.heap.size + 1 + 1 + 1) (w.heap.size + 1 + 1) (w.heap.size + 1) W h3 h2)
  clear h2 h3
  go_enter Tryz.func21, Tryz.ntmps21
  go_wp2_with (first
    | (go_at_call 33; refine (call33 _ _ ⟨_, _, _, rfl⟩).mono ?_; rintro e w' ⟨rfl, rfl⟩)
    | (go_at_call 32; refine HNC.out.mono ?_))
  rintro e w1 ⟨C, cc, rfl, hcc, hc0, hcs, hc8, hc9, hCW, hb⟩
  have HH := Aside0.mk (And.intro hcc (And.intro hc0 (And.intro hcs (And.intro hc8 (And.intro hc9 (And.intro hCW hb))))))
  have HK1 := Aside0.mk (show w1.heap[w.heap.size + 1]? = _ from (hb.block _ (blk_lt HK.out)).trans HK.out)
  have d0 := blk_cell HK1.out 0
  have e0 := blk_frozen HK1.out 0
  clear hcc hc0 hcs hc8 hc9 hCW hb HNC hW
  go_wp2
  go_ret2
  obtain ⟨hcc, hc0, hcs, hc8, hc9, hCW, hb⟩ := HH.out
  have hkc : w.heap.size + 1 ≠ C := by have := HSZ.out; omega
  have hT1 : w1.heap[w.heap.size]? = _ := (hb.block _ (blk_lt HT.out)).trans HT.out
  have hbw : Below w.heap.size w w1 := HB.out.trans (hb.mono HB.out.size)
  refine ⟨w.heap.size + 1, w.heap.size, C, cc, rfl, by omega, by have := HSZ.out; omega, blk_put HK1.out 0 _ rfl, (Below.heap_setCell _ _ _ _ (Ne.symm hkc)).trans hcc, hc0, hcs, hc8, hc9, ⟨_, 0, _, Nat.lt_irrefl _, (Below.heap_setCell _ _ _ _ (by simp)).trans hT1, ⟨[], .inl rfl, Buf.nil _ _ _⟩, Buf.nil _ _ _⟩, hbw.setCell (by simp) _⟩
end Go.Proofs.YtkmdjpinpjcndaaGreatDoor

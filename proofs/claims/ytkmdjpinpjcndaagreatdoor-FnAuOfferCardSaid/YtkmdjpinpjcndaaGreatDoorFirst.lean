/-
  What a mechanism says first: its name.
-/
import Derived.Test.YtkmdjpinpjcndaaGreatDoorRl
namespace Go.Proofs.YtkmdjpinpjcndaaGreatDoor
open Go.RowKit Go.Proofs.YtkmdjpinpjcndaaGreatDoorW.PrintWords
variable {P D : Nat → Prop} {w w1 w2 : World}

def nExternal : List UInt8 := [69, 88, 84, 69, 82, 78, 65, 76]
def nAnonymous : List UInt8 := [65, 78, 79, 78, 89, 77, 79, 85, 83]

/-- What a mechanism's first call gives. -/
def FirstPost (P : Nat → Prop) (w : World) (nm : List UInt8) (st : Int) (e : Ending) (w' : World) : Prop :=
  ∃ (A : Option Addr) (c : Nat) (dv : Value) (D : Nat → Prop), e = .returned (.tuple #[.slice A nm.length c, dv, .int .u8 st]) ∧ (∀ k, P k → D k) ∧ (∀ k, D k → P k ∨ w.heap.size ≤ k) ∧ Lt D w' ∧ RB D w' A nm ∧ Below w.heap.size w w'

theorem FirstPost.of {w' : World} {nm : List UInt8} {fr : Nat × Nat} {B n c : Nat} {st : Int} {dv : Value} {cs : Array Value} (hP : Lt P w) (hb : Below w.heap.size w w') (hB : w.heap.size ≤ B) (hh : w'.heap[B]? = some (.cells cs 5 fr)) (hs : nm.length ≤ 9223372036854775807) (hn : nm.length = n)
    (hc : ∀ (j : Nat) (h : j < nm.length), cs[j]? = some (.int .u8 (nm[j].toNat : Int))) : FirstPost P w nm st (.returned (.tuple #[.slice (some ⟨B, 0, none⟩) n c, dv, .int .u8 st])) w' := by
  subst hn
  refine ⟨_, c, dv, fun k => P k ∨ k = B, rfl, fun k hk => .inl hk, fun k hk => ?_, fun k hk => ?_, RB.ofBlock hh (.inr rfl) hs fun j hj => ?_, hb⟩
  · rcases hk with hk | rfl
    · exact .inl hk
    · exact .inr hB
  · rcases hk with hk | rfl
    · exact Nat.lt_of_lt_of_le (hP k hk) hb.size
    · exact (Array.getElem?_eq_some_iff.1 hh).1
  · rw [Nat.zero_add]
    exact hc j hj
theorem cells_of (nm : List UInt8) (cs : Array Value) (h : cs = (Lib.byteCells nm).toArray) : ∀ (j : Nat) (h : j < nm.length), cs[j]? = some (.int .u8 (nm[j].toNat : Int)) := by
  subst h
  intro j hj
  simp [Lib.byteCells, hj]

set_option maxRecDepth 100000 in
theorem first107 (b : Nat) (hP : Lt P w) : Calls Tryz.prog 107 #[.pointer (some ⟨b, 0, none⟩)] w (FirstPost P w nAnonymous 0) := by
  have kcb := kconst
  have HP := Aside0.mk hP
  clear hP
  go_enter Tryz.func107, Tryz.ntmps107
  go_wp2
  go_ret3
  exact FirstPost.of HP.out ((Below.refl _ w).alloc (Nat.le_refl _) _) (Nat.le_refl _) (heap_alloc_new w _) (by decide) rfl (cells_of nAnonymous _ rfl)

theorem hex_call (u : ByteArray) (w : World) (hu : u.size ≤ 1000000) (c : Nat) : Calls Tryz.prog 106 #[.slice (some ⟨w.heap.size + 1, 0, none⟩) (2 * u.size) (2 * u.size), .slice (some ⟨w.heap.size + 1 + 1, 0, none⟩) u.size c]
    (Lib.bytesWorld ((w.alloc (.cells #[.string u] 157)).alloc (.cells (madeCells #[.int .u8 0] (2 * u.size)) 5)) 5 u) fun e w' => e = .returned (.int .i64 ((u.size : Int) * 2)) ∧ Below w.heap.size w w' := by
  have hsz : ((w.alloc (.cells #[.string u] 157)).alloc (.cells (madeCells #[.int .u8 0] (2 * u.size)) 5)).heap.size = w.heap.size + 1 + 1 := by simp
  have hcs : (madeCells #[Value.int .u8 0] (2 * u.size)).size = 2 * u.size := by rw [size_madeCells]
  have hbel : Below w.heap.size w (Lib.bytesWorld ((w.alloc (.cells #[.string u] 157)).alloc (.cells (madeCells #[.int .u8 0] (2 * u.size)) 5)) 5 u) :=
    bytes_below (((Below.refl _ w).alloc (Nat.le_refl _) _).alloc (by simp) _) (by simp; omega) 5 u
  refine (Tryz.hex_Encode (w.heap.size + 1) 0 (2 * u.size) (2 * u.size) (2 * u.size) (fun i => ((madeCells #[Value.int .u8 0] (2 * u.size))[i]?).getD undef) (w.heap.size + 1 + 1) 0 u.size c (ints u.data.toList) _ (by rw [ints_length, data_length]) (fun i hi => ?_) (fun i hi => ?_) ⟨madeCells #[Value.int .u8 0] (2 * u.size), ?_, hcs, fun i hi => ?_⟩ (by omega) (by omega) (by omega) (by omega)).mono ?_
  · rw [ints_getD _ i (by rw [data_length]; exact hi)]
    have := (u.data.toList[i]'(by rw [data_length]; exact hi)).toNat_lt
    omega
  · have h := Lib.bytesWorld_cell ((w.alloc (.cells #[.string u] 157)).alloc (.cells (madeCells #[.int .u8 0] (2 * u.size)) 5)) 5 u i hi
    rw [hsz] at h
    rw [Nat.zero_add, h, ints_getD _ i (by rw [data_length]; exact hi)]
    have hi' : i < u.data.size := hi
    simp
    rw [Array.getElem?_eq_getElem hi']
    rfl
  · rw [Lib.bytesWorld_at_old _ 5 u _ (by rw [hsz]; omega)]
    have h := heap_alloc_new (w.alloc (.cells #[.string u] 157)) (.cells (madeCells #[.int .u8 0] (2 * u.size)) 5)
    rwa [show (w.alloc (.cells #[.string u] 157)).heap.size = w.heap.size + 1 by simp] at h
  · simp only [Array.getElem?_eq_getElem (show i < (madeCells #[Value.int .u8 0] (2 * u.size)).size by rw [hcs]; exact hi), Option.getD_some]
  · rintro e w2 ⟨rfl, _, hg⟩
    exact ⟨rfl, hbel.grown hg hbel.size (fun k hk => by have hk : w.heap.size + 1 = k := Option.some.inj hk; omega)⟩

set_option maxRecDepth 100000 in
set_option maxHeartbeats 1000000 in
theorem first104 (u : ByteArray) (hu : u.size ≤ 1000000) (hP : Lt P w) : Calls Tryz.prog 104 #[.agg #[.string u]] w (FirstPost P w nExternal 0) := by
  have kcb := kconst
  have kb := fun W => print_bytes (P := Tryz.prog) 9 35 5 Tryz.underlying9 Tryz.underlying35 Tryz.underlying5 u W
  have kmk : ∀ W : World, (Instr.makeSlice 35 (.int .i64 (2 * (u.size : Int))) (.int .i64 (2 * (u.size : Int)))).run Tryz.prog W = .ok (.slice (some ⟨W.heap.size, 0, none⟩) (2 * u.size) (2 * u.size)) (W.alloc (.cells (madeCells #[.int .u8 0] (2 * u.size)) 5)) := by
    have := print_make (P := Tryz.prog) 35 5 .u8 1 Tryz.underlying35 info5 (by decide) (2 * u.size) (by omega)
    simpa using this
  have HP := Aside0.mk hP
  have hu' : (u.size : Int) ≤ 1000000 := by omega
  have HU := Aside0.mk hu
  clear hP hu
  go_enter Tryz.func104, Tryz.ntmps104
  go_wp2_with (go_at_call 106; refine (hex_call u w HU.out _).mono ?_)
  rintro e w2 ⟨rfl, hb2⟩
  have HB2 := Aside0.mk hb2
  clear hb2
  go_wp2
  go_ret3
  exact FirstPost.of HP.out (HB2.out.alloc HB2.out.size _) HB2.out.size (heap_alloc_new w2 _) (by decide) rfl (cells_of nExternal _ rfl)

set_option maxRecDepth 100000 in
set_option maxHeartbeats 1000000 in
theorem first84 (m : Nat) (k f : Int) (name : ByteArray) (av : Value) (hh : w.heap[m]? = some (.cells #[.int .u8 k, .string name, .int .u8 f, av, .int .i64 0] 87 (0, 0))) (hs : name.size ≤ 1000000) (hf : f = 0 ∨ f = 1) (hP : Lt P w) : Calls Tryz.prog 84 #[.pointer (some ⟨m, 0, none⟩)] w (FirstPost P w name.data.toList f) := by
  have kb := fun W => print_bytes (P := Tryz.prog) 9 35 5 Tryz.underlying9 Tryz.underlying35 Tryz.underlying5 name W
  have c1 := blk_cell hh 1
  have c2 := blk_cell hh 2
  have c4 := blk_cell hh 4
  have f4 := blk_frozen hh 4
  have HP := Aside0.mk hP
  have HH := Aside0.mk hh
  have HS := Aside0.mk hs
  clear hP hh hs
  have k2 : (Lib.bytesWorld (w.setCell ⟨m, 4, none⟩ (.int .i64 0)).drew 5 name).cell? ⟨m, 2, none⟩ = some (.int .u8 f) := by
    have hm : m < (w.setCell ⟨m, 4, none⟩ (.int .i64 0)).drew.heap.size := by
      have := blk_lt HH.out
      show m < (w.setCell _ _).heap.size
      simp only [World.setCell, Array.size_modify]
      exact this
    rw [World.cell?_of_block (w := (w.setCell ⟨m, 4, none⟩ (.int .i64 0)).drew) (Lib.bytesWorld_at_old _ 5 name m hm)]
    exact blk_cell (blk_set HH.out 4 _) 2
  have hfin : ∀ (st : Int) (dv : Value) (c : Nat), FirstPost P w name.data.toList st (.returned (.tuple #[.slice (some ⟨w.heap.size, 0, none⟩) name.size c, dv, .int .u8 st])) (Lib.bytesWorld (w.setCell ⟨m, 4, none⟩ (.int .i64 0)).drew 5 name) := by
    intro st dv c
    have hsz : (w.setCell ⟨m, 4, none⟩ (.int .i64 0)).drew.heap.size = w.heap.size := by
      show (w.setCell _ _).heap.size = _
      simp only [World.setCell, Array.size_modify]
    have hsame : Below w.heap.size w (w.setCell ⟨m, 4, none⟩ (.int .i64 0)).drew := by
      refine ⟨rfl, rfl, rfl, by rw [hsz]; exact Nat.le_refl _, fun k _ => ?_⟩
      show (w.setCell _ _).heap[k]? = _
      by_cases hk : k = m
      · subst hk
        rw [blk_set HH.out 4 _, HH.out]
        rfl
      · exact Below.heap_setCell _ _ _ _ hk
    refine FirstPost.of HP.out (bytes_below hsame (by rw [hsz]; exact Nat.le_refl _) 5 name) (Nat.le_refl _) (hsz ▸ Lib.bytesWorld_at_new (w.setCell ⟨m, 4, none⟩ (.int .i64 0)).drew 5 name) (by rw [data_length]; have := HS.out; omega) (by rw [data_length]) fun j hj => ?_
    have hj' : j < name.size := by rw [← data_length]; exact hj
    have := Lib.bytesWorld_cell (w.setCell ⟨m, 4, none⟩ (.int .i64 0)).drew 5 name j hj'
    rw [Lib.cell_of_heap (Lib.bytesWorld_at_new _ 5 name)] at this
    rw [this]
    have hj2 : j < name.data.size := hj'
    simp
    rw [Array.getElem?_eq_getElem hj2]
    rfl
  have HFIN := Aside0.mk hfin
  clear hfin
  rcases hf with rfl | rfl
  · go_enter Tryz.func84, Tryz.ntmps84
    go_wp2
    go_region
    all_goals go_wp2
    all_goals go_ret3
    all_goals exact HFIN.out _ _ _
  · go_enter Tryz.func84, Tryz.ntmps84
    go_wp2
    go_region
    all_goals go_wp2
    all_goals go_ret3
    all_goals exact HFIN.out _ _ _
end Go.Proofs.YtkmdjpinpjcndaaGreatDoor

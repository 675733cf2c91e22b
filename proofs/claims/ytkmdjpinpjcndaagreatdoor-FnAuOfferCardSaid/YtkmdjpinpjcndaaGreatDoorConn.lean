/-
  A connection made.
-/
import Derived.Test.YtkmdjpinpjcndaaGreatDoorWrite
import Derived.Maps.OwnSet
import Derived.StringKeys
import Derived.RegionTactic
import Derived.WalkKit
import Derived.WalkSpells
import Derived.WalkLawsBesides
namespace Go.Proofs.YtkmdjpinpjcndaaGreatDoor
open Go.RowKit Go.Proofs.YtkmdjpinpjcndaaGreatDoorW.PrintWords Go.Maps Go.WideMaps
variable {P D : Nat → Prop} {w w1 w2 : World}

/-- Of a map's values nothing is kept. -/
def anyElem : Value → Option (DataW Unit × List MemPlace) := fun _ => some (.lit (.bool true), [])

set_option maxRecDepth 100000 in
set_option maxHeartbeats 1000000 in
theorem call54 (pb : Nat) (w : World) : Calls Tryz.prog 54 #[.pointer (some ⟨pb, 0, none⟩)] w fun e w' => (∃ b, e = .returned (.pointer (some ⟨b, 0, none⟩))) ∧ Below w.heap.size w w' := by
  have hmm := @run_makeMap Tryz.prog
  have hown0 := World.ownsMap_made (H := Unit) w Tryz.prog 9 anyElem
  obtain ⟨w1, hrun, _, hturn⟩ := ((hown0.alloc (.cells #[.pointer (some ⟨pb, 0, none⟩)] 219)).store (string_keyed Tryz.underlying9) Tryz.underlying216 (by decide) (keyOf_string_mk (s := ⟨#[73, 110, 116, 114, 111, 115, 112, 101, 99, 116]⟩) Tryz.underlying9 (by decide)) (val := .iface 217 (.pointer (some ⟨w.heap.size + 1, 0, none⟩))) rfl)
  have HT := Aside0.mk hturn
  clear hturn
  go_enter Tryz.func54, Tryz.ntmps54
  go_wp2
  go_ret
  have hb : Below w.heap.size w w1 := (((Below.refl _ w).alloc (Nat.le_refl _) _).alloc (by simp) _).grown HT.out.grown (by simp; omega) (fun k hk => by have hk : w.heap.size = k := Option.some.inj hk; omega)
  exact ⟨⟨_, rfl⟩, hb.alloc hb.size _⟩
set_option maxRecDepth 100000 in
set_option maxHeartbeats 1000000 in
theorem call45 (w : World) : Calls Tryz.prog 45 #[] w fun e w' => (∃ b, e = .returned (.pointer (some ⟨b, 0, none⟩))) ∧ Below w.heap.size w w' := by
  have hmm := @run_makeMap Tryz.prog
  have hown0 := World.ownsMap_made (H := Unit) w Tryz.prog 95 anyElem
  obtain ⟨w1, hrun, _, hturn⟩ := (hown0.store (int_keyed Tryz.underlying95) Tryz.underlying194 (by decide) (keyOf_int_mk (a := (0 : Int)) Tryz.underlying95 (by decide)) (val := .bool true) rfl)
  have HT := Aside0.mk hturn
  clear hturn
  go_enter Tryz.func45, Tryz.ntmps45
  go_wp2
  go_ret
  have hb : Below w.heap.size w w1 := ((Below.refl _ w).alloc (Nat.le_refl _) _).grown HT.out.grown (by simp) (fun k hk => by have hk : w.heap.size = k := Option.some.inj hk; omega)
  exact ⟨⟨_, rfl⟩, hb.alloc hb.size _⟩

theorem owns_below {b n : Nat} {D : DataW Unit} {k : TypeId} (h : w.ownsMap Tryz.prog k anyElem b n D) (hb : Below w.heap.size w w1) : w1.ownsMap Tryz.prog k anyElem b n D := by
  obtain ⟨es, clock, hh, r⟩ := h
  exact ⟨es, clock, (hb.block b (Array.getElem?_eq_some_iff.1 hh).1).trans hh, r⟩
theorem next43 (w W w' : World) (b : Nat) (hs : W.heap.size = w.heap.size + 1 + 1 + 1) (ho : W.ownsMap Tryz.prog 9 anyElem (w.heap.size + 1) 0 (DataW.map [] : DataW Unit)) (hb : Below W.heap.size W w') :
    ∃ w2, (Instr.mapUpdate 186 (.map (some (w.heap.size + 1))) (.string ⟨#[111, 114, 103, 46, 102, 114, 101, 101, 100, 101, 115, 107, 116, 111, 112, 46, 68, 66, 117, 115, 46, 73, 110, 116, 114, 111, 115, 112, 101, 99, 116, 97, 98, 108, 101]⟩) (.pointer (some ⟨b, 0, none⟩))).run Tryz.prog w' = .ok () w2 ∧ Below (w.heap.size + 1) w' w2 := by
  obtain ⟨w2, hrun, _, hturn⟩ := (owns_below ho hb).store (string_keyed Tryz.underlying9) Tryz.underlying186 (by decide) (keyOf_string_mk (s := ⟨#[111, 114, 103, 46, 102, 114, 101, 101, 100, 101, 115, 107, 116, 111, 112, 46, 68, 66, 117, 115, 46, 73, 110, 116, 114, 111, 115, 112, 101, 99, 116, 97, 98, 108, 101]⟩) Tryz.underlying9 (by decide)) (val := .pointer (some ⟨b, 0, none⟩)) rfl
  exact ⟨w2, hrun, (Below.refl _ w').grown hturn.grown (by have := hb.size; omega) (fun k hk => by have hk : w.heap.size + 1 = k := Option.some.inj hk; omega)⟩
set_option maxRecDepth 100000 in
set_option maxHeartbeats 1000000 in
theorem call43 (w : World) : Calls Tryz.prog 43 #[] w fun e w' => (∃ b, e = .returned (.pointer (some ⟨b, 0, none⟩))) ∧ Below w.heap.size w w' := by
  have hmm := @run_makeMap Tryz.prog
  generalize hW : ((w.alloc (.map #[] 0)).alloc (.map #[] 0)).alloc (.cells #[.int .i32 0, .int .u32 0, .int .u32 0, .int .u32 0, .int .i32 0, .int .i32 0, .map (some w.heap.size), .map (some (w.heap.size + 1))] 188) = W
  have hbW : Below w.heap.size w W := by
    rw [← hW]
    exact (((Below.refl _ w).alloc (Nat.le_refl _) _).alloc (by simp) _).alloc (by simp; omega) _
  have hsW : W.heap.size = w.heap.size + 1 + 1 + 1 := by rw [← hW]; simp
  have hcW : W.heap[w.heap.size + 1 + 1]? = some (.cells #[.int .i32 0, .int .u32 0, .int .u32 0, .int .u32 0, .int .i32 0, .int .i32 0, .map (some w.heap.size), .map (some (w.heap.size + 1))] 188 (0, 0)) := by
    rw [← hW]
    have := heap_alloc_new ((w.alloc (.map #[] 0)).alloc (.map #[] 0)) (.cells #[.int .i32 0, .int .u32 0, .int .u32 0, .int .u32 0, .int .i32 0, .int .i32 0, .map (some w.heap.size), .map (some (w.heap.size + 1))] 188)
    simpa using this
  have hoW : W.ownsMap Tryz.prog 9 anyElem (w.heap.size + 1) 0 (DataW.map [] : DataW Unit) := by
    rw [← hW]
    have := (World.ownsMap_made (H := Unit) (w.alloc (.map #[] 0)) Tryz.prog 9 anyElem).alloc (.cells #[.int .i32 0, .int .u32 0, .int .u32 0, .int .u32 0, .int .i32 0, .int .i32 0, .map (some w.heap.size), .map (some (w.heap.size + 1))] 188)
    simpa using this
  have HBW := Aside0.mk hbW
  have HSW := Aside0.mk hsW
  have HCW := Aside0.mk hcW
  have HOW := Aside0.mk hoW
  have k7 := blk_cell hcW 7
  clear hbW hsW hcW hoW
  go_enter Tryz.func43, Tryz.ntmps43
  go_wp2_with fail
  clear hW
  go_region_with (go_at_call 54; refine (call54 _ _).mono ?_; rintro e w' ⟨⟨b, rfl⟩, hb0⟩; have hb : Below W.heap.size W w' := (below_drew1 (Below.refl W.heap.size W)).trans hb0; clear hb0; have HB := Aside0.mk hb; have HX := Aside0.mk (next43 w W w' b HSW.out HOW.out hb); have hcx := (hb.cell (p := ⟨w.heap.size + 1 + 1, 7, none⟩) (by have := HSW.out; show w.heap.size + 1 + 1 < W.heap.size; omega)).trans k7; clear hb; obtain ⟨w2, hrun2, hb2⟩ := HX.out; have HB2 := Aside0.mk hb2; clear hb2 HX)
  all_goals go_wp2
  all_goals go_ret
  all_goals exact ⟨⟨_, rfl⟩, (HBW.out.trans (HB.out.mono (by have := HSW.out; omega))).trans (HB2.out.mono (by omega))⟩
end Go.Proofs.YtkmdjpinpjcndaaGreatDoor

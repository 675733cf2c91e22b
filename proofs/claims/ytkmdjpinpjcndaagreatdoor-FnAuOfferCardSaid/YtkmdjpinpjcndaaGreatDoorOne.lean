/-
  The walk of the statement's own run, to one name that is let in.
-/
import Derived.Test.YtkmdjpinpjcndaaGreatDoorRun
namespace Go.Proofs.YtkmdjpinpjcndaaGreatDoor
open Go.RowKit Go.Proofs.YtkmdjpinpjcndaaGreatDoorW.PrintWords
variable {P D : Nat → Prop} {w w1 w2 : World}

def oneHello : ByteArray := ⟨#[82, 69, 74, 69, 67, 84, 69, 68, 32, 65, 78, 79, 78, 89, 77, 79, 85, 83, 13, 10]⟩
def oneOk : ByteArray := ⟨#[79, 75, 32, 49, 50, 97, 98, 13, 10]⟩
def oneSent : ByteArray := ⟨#[0, 65, 85, 84, 72, 13, 10, 65, 85, 84, 72, 32, 65, 78, 79, 78, 89, 77, 79, 85, 83, 13, 10, 66, 69, 71, 73, 78, 13, 10]⟩
theorem hello_line : LineOf oneHello (nRej :: [nAnonymous]) := ⟨by decide, by decide, by decide, by decide, by decide⟩
theorem ok_line : LineOf oneOk [[79, 75], [49, 50, 97, 98]] := ⟨by decide, by decide, by decide, by decide, by decide⟩
theorem one_sent : (⟨([0] ++ (nAuth ++ [13, 10]) ++ authLine nAnonymous ++ (nBegin ++ [13, 10])).toArray⟩ : ByteArray) = oneSent := by decide

set_option maxRecDepth 100000 in
set_option maxHeartbeats 2000000 in
theorem One_calls (w : World) : Calls Tryz.prog 14 #[] w fun e w' => e = .returned (.bool true) ∧ Below w.heap.size w w' := by
  generalize hW : (w.alloc (.cells #[.int .u8 1, .string ⟨#[]⟩, .int .u8 0, .slice none 0 0] 29)).alloc (.cells #[.string oneHello, .string oneOk] 9) = W
  have s1 : (w.alloc (.cells #[.int .u8 1, .string ⟨#[]⟩, .int .u8 0, .slice none 0 0] 29)).heap.size = w.heap.size + 1 := by simp
  have HB := Aside0.mk (show Below w.heap.size w W by rw [← hW]; exact ((Below.refl _ w).alloc (Nat.le_refl _) _).alloc (by rw [s1]; omega) _)
  have hsz : W.heap.size = w.heap.size + 1 + 1 := by rw [← hW]; simp
  have h1 : W.heap[w.heap.size]? = some (.cells #[.int .u8 1, .string ⟨#[]⟩, .int .u8 0, .slice none 0 0] 29) := by
    rw [← hW, Below.heap_alloc _ _ _ (by rw [s1]; omega)]
    exact heap_alloc_new w _
  have h2 : W.heap[w.heap.size + 1]? = some (.cells #[.string oneHello, .string oneOk] 9) := by
    rw [← hW, ← s1]
    exact heap_alloc_new _ _
  have HR := Aside0.mk (AuRun_calls (w := W) true [49, 50, 97, 98] (some ⟨w.heap.size, 0, none⟩) (some ⟨w.heap.size + 1, 0, none⟩) 1 1 2 2 [nAnonymous] [⟨1, ⟨#[]⟩, 0, none, 0, 0⟩] oneHello [oneOk] false hello_line (by decide) rfl
    (fun i hi => by
      obtain rfl : i = 0 := by simp at hi; omega
      refine ⟨w.heap.size, 0, rfl, by show w.heap.size < W.heap.size; omega, ?_, ?_, ?_, ?_⟩ <;> (rw [Lib.cell_of_heap h1]; rfl))
    (by decide)
    (fun j hj => by
      refine ⟨w.heap.size + 1, 0, rfl, by show w.heap.size + 1 < W.heap.size; omega, ?_⟩
      rw [Lib.cell_of_heap h2]
      rcases j with _ | _ | j
      · rfl
      · rfl
      · simp at hj; omega)
    rfl (fun m hm => by
      obtain rfl := List.mem_singleton.1 hm
      exact ⟨.inr (.inl rfl), .inl rfl, by decide, fun _ => rfl⟩)
    (.inl ⟨rfl, rfl, oneOk, rfl, ok_line⟩) (fun _ => rfl) (fun _ => by decide) (by decide))
  clear h1 h2 s1 hsz
  unfold oneHello oneOk at hW
  go_enter Tryz.func14, Tryz.ntmps14
  go_wp2_with (go_at_call 13; refine HR.out.mono ?_)
  rintro e w3 ⟨hr, hb⟩
  have HB3 := Aside0.mk (HB.out.trans (hb.mono HB.out.size))
  rcases hr with ⟨h, _⟩ | ⟨_, s, hs, rfl⟩
  · cases h
  · obtain rfl := List.mem_singleton.1 hs
    rw [one_sent]
    clear hb hs hW
    unfold oneSent
    go_wp2
    go_ret
    exact ⟨rfl, HB3.out⟩
end Go.Proofs.YtkmdjpinpjcndaaGreatDoor

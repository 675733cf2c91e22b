/-
  The zero byte ahead of all lines.
-/
import Derived.Test.YtkmdjpinpjcndaaGreatDoorWrite
namespace Go.Proofs.YtkmdjpinpjcndaaGreatDoor
open Go.RowKit Go.Proofs.YtkmdjpinpjcndaaGreatDoorW.PrintWords
variable {P D : Nat → Prop} {w w1 w2 : World}

theorem RB.reads' {A : Option Addr} {l : List UInt8} (h : RB D w A l) : ReadsInt w .u8 A l.length (ints l) := h.reads

set_option maxRecDepth 100000 in
set_option maxHeartbeats 1000000 in
theorem Null83_calls (T : Nat) (rem : List ByteArray) (out : List UInt8) (fds : Bool) (hD : Door P w T rem out fds) (hP : Lt P w) (hlim : out.length ≤ 100000000) :
    Calls Tryz.prog 83 #[.agg #[.iface 59 (.pointer (some ⟨T, 0, none⟩))]] w fun e w' => e = .returned .nilIface ∧ Door P w' T rem (out ++ [0]) fds ∧ Fix P w w' := by
  have HB := Aside0.mk (show Below w.heap.size w ((w.alloc (.cells #[.iface 59 (.pointer (some ⟨T, 0, none⟩))] 245)).alloc (.cells #[.int .u8 0] 5)) from ((Below.refl _ w).alloc (Nat.le_refl _) _).alloc (by simp) _)
  have HR := Aside0.mk (show ReadsInt ((w.alloc (.cells #[.iface 59 (.pointer (some ⟨T, 0, none⟩))] 245)).alloc (.cells #[.int .u8 0] 5)) .u8 (some ⟨w.heap.size + 1, 0, none⟩) ([0] : List UInt8).length (ints [0]) from
    (RB.ofBlock (D := fun _ => True) (l := [0]) (by have := heap_alloc_new (w.alloc (.cells #[.iface 59 (.pointer (some ⟨T, 0, none⟩))] 245)) (.cells #[.int .u8 0] 5); rwa [show (w.alloc (.cells #[.iface 59 (.pointer (some ⟨T, 0, none⟩))] 245)).heap.size = w.heap.size + 1 by simp] at this) trivial (by decide) (fun j hj => by
      have : j = 0 := by simp at hj; omega
      subst this; rfl)).reads)
  have HW := Aside0.mk (Write_calls T rem out [0] fds ⟨w.heap.size + 1, 0, none⟩ 1 (hD.below HB.out) (fun k hk => Nat.lt_of_lt_of_le (hP k hk) HB.out.size) HR.out (by simp; omega))
  have HP := Aside0.mk hP
  clear hD hP hlim
  go_enter Tryz.func83, Tryz.ntmps83
  go_wp2_with (go_at_call 81; refine HW.out.mono ?_)
  rintro e w1 ⟨rfl, h1, h2⟩
  have H1 := Aside0.mk (And.intro h1 h2)
  clear h1 h2
  go_wp2
  go_ret
  exact ⟨rfl, H1.out.1, (Fix.ofBelow HB.out HP.out).trans H1.out.2⟩

set_option maxRecDepth 100000 in
theorem Null_calls (T : Nat) (rem : List ByteArray) (out : List UInt8) (fds : Bool) (hD : Door P w T rem out fds) (hP : Lt P w) (hlim : out.length ≤ 100000000) :
    Calls Tryz.prog 79 #[.pointer (some ⟨T, 0, none⟩)] w fun e w' => e = .returned .nilIface ∧ Door P w' T rem (out ++ [0]) fds ∧ Fix P w w' := by
  have H := Aside0.mk (Null83_calls T rem out fds hD hP hlim)
  clear hD hP hlim
  go_enter Tryz.func79, Tryz.ntmps79
  go_wp2_with (go_at_call 83; refine H.out.mono ?_)
  rintro e w1 ⟨rfl, h1, h2⟩
  have H1 := Aside0.mk (And.intro h1 h2)
  clear h1 h2
  go_wp2
  go_ret
  exact ⟨rfl, H1.out⟩
end Go.Proofs.YtkmdjpinpjcndaaGreatDoor

/-
  The walk of the statement on serials.
-/
import Derived.Test.YtkmdjpinpjcndaaSerials
namespace Go.Proofs.Ytkmdjpinpjcndaa
open Go.RowKit Go.Proofs.YtkmdjpinpjcndaaW.PrintWords

theorem CnSerials_calls (n : Nat) (A : Option Addr) (nb cb : Nat) (xs : List Int) (w : World) (hn : n ≤ 1000) (hr : ReadsInt w .u32 A nb xs) (hx : ∀ j, j < nb → ∃ x : Nat, xs.getD j 0 = x ∧ x < 4294967296) :
    Calls Try.prog 4 #[.int .i64 n, .slice A nb cb] w fun e w' => ∃ v, e = .returned v ∧ w'.ownsRow w.heap.size 25 1 v n (nums .u32 (firsts n)) ∧ Below w.heap.size w w' := by
  go_enter Try.func4, Try.ntmps4
  go_wp2_with (go_at_call 5; refine (DoorSerials_calls n A nb cb xs w hn hr hx).mono ?_)
  rintro e w1 ⟨v, rfl, ho, hb⟩
  have HO := Aside0.mk ho
  have HB := Aside0.mk hb
  clear ho hb
  go_wp2
  go_ret
  exact ⟨v, rfl, HO.out, HB.out⟩

theorem rd_firsts (n k : Nat) (h : k < n) : rd (firsts n) k = (k : Int) + 1 := by
  simp [rd, firsts, List.getD_eq_getElem?_getD, h]

set_option maxRecDepth 100000 in
set_option maxHeartbeats 1600000 in
theorem FnCnNumbers_calls (n : Nat) (hn : n ≤ 65535) (A : Option Addr) (nb cb : Nat) (xs : List Int) (w : World) (hr : ReadsInt w .u32 A nb xs) (hx : ∀ j, j < nb → ∃ x : Nat, xs.getD j 0 = x ∧ x < 4294967296) :
    Calls Try.prog 3 #[.int .u16 n, .slice A nb cb] w fun e w' => e = .returned (.bool true) ∧ Below w.heap.size w w' := by
  have HR := Aside0.mk hr
  have HX := Aside0.mk hx
  have HM := hr.2.1
  clear hr hx
  by_cases h0 : nb ≤ 2147483647
  · have a1 : decide (2147483647 < nb) = false := decide_eq_false (by omega)
    have a2 : decide ((2147483647 : Int) < (nb : Int)) = false := decide_eq_false (by omega)
    by_cases h1 : n ≤ 1000
    · have b1 : decide (1000 < n) = false := decide_eq_false (by omega)
      have b2 : decide ((1000 : Int) < (n : Int)) = false := decide_eq_false (by omega)
      by_cases h2 : nb ≤ 1000
      · have c1 : decide (1000 < nb) = false := decide_eq_false (by omega)
        have c2 : decide ((1000 : Int) < (nb : Int)) = false := decide_eq_false (by omega)
        go_enter Try.func3, Try.ntmps3
        go_wp2_with (go_at_call 4; refine (CnSerials_calls n A nb cb xs w h1 HR.out HX.out).mono ?_)
        rintro e w1 ⟨v, rfl, ho, hb⟩
        obtain ⟨A1, k1, hv, hr1⟩ := own_reads ho
        rw [hv]
        have HB1 := Aside0.mk hb
        have HR1 := Aside0.mk hr1
        clear ho hb hr1 hv
        go_wp2_with (go_at_call 4; refine (CnSerials_calls 1 none 0 0 [] w1 (by omega) (ReadsInt.nil w1 .u32) (fun j hj => by omega)).mono ?_)
        rintro e w2 ⟨v2, rfl, ho, hb⟩
        obtain ⟨A2, k2, hv, hr2⟩ := own_reads ho
        obtain ⟨ad2, rfl, hc2⟩ := hr2.2.2 (by omega)
        have hone : w2.cell? ad2 = some (.int .u32 1) := by
          have := hc2 0 (by omega)
          have hz : ad2.add 0 = ad2 := by unfold Addr.add; simp
          rw [hz] at this
          exact this
        rw [hv]
        have HB2 := Aside0.mk (HB1.out.trans (hb.mono HB1.out.size))
        have HR2 := Aside0.mk (HR1.out.below hb)
        clear ho hb hr2 hv hc2 HB1 HR1
        go_wp2
        go_loopg [41] n (fun q v41 w' => ∃ k : Nat, k ≤ n ∧ Aside0 (q = n - k) ∧ v41 = .int .i64 k ∧ w2 = w')
        case atStart => exact ⟨0, by omega, ⟨by omega⟩, rfl, rfl⟩
        case round =>
          obtain ⟨k, hk, HQ, rfl, rfl⟩ := hrel
          by_cases hlt : k < n
          · obtain ⟨ad, rfl, hcell⟩ := HR2.out.at_ (k : Int) (by omega) (by omega)
            rw [Int.toNat_natCast, rd_firsts n k hlt] at hcell
            have hwr : IntKind.u32.wrap (k : Int) = (k : Int) := IntWalk.u32_in _ (by omega)
            have hwr2 : IntKind.u32.wrap ((k : Int) + 1) = (k : Int) + 1 := IntWalk.u32_in _ (by omega)
            go_wp2
            go_roundg (n - (k+1))
            case measure => have := HQ.out; omega
            case rel => exact ⟨k+1, by omega, ⟨rfl⟩, by go_num, rfl⟩
          · go_wp2
            go_ret
            exact ⟨rfl, HB2.out⟩
      · have c1 : decide (1000 < nb) = true := decide_eq_true (by omega)
        have c2 : decide ((1000 : Int) < (nb : Int)) = true := decide_eq_true (by omega)
        go_enter Try.func3, Try.ntmps3
        go_wp2
        go_ret
        exact ⟨rfl, Below.refl _ _⟩
    · have b1 : decide (1000 < n) = true := decide_eq_true (by omega)
      have b2 : decide ((1000 : Int) < (n : Int)) = true := decide_eq_true (by omega)
      go_enter Try.func3, Try.ntmps3
      go_wp2
      go_ret
      exact ⟨rfl, Below.refl _ _⟩
  · have a1 : decide (2147483647 < nb) = true := decide_eq_true (by omega)
    have a2 : decide ((2147483647 : Int) < (nb : Int)) = true := decide_eq_true (by omega)
    go_enter Try.func3, Try.ntmps3
    go_wp2
    go_ret
    exact ⟨rfl, Below.refl _ _⟩
end Go.Proofs.Ytkmdjpinpjcndaa

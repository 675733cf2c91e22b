/-
  The walk of the statement on lines.
-/
import Derived.Test.YtkmdjpinpjcndaaDoorLine
namespace Go.Proofs.YtkmdjpinpjcndaaDoor
open Go.RowKit Go.Proofs.YtkmdjpinpjcndaaDoorW.PrintWords

theorem AuLine_calls (A0 : Option Addr) (n c0 : Nat) (ss : List ByteArray) (w : World) (hr : ReadsStr w A0 n ss) (hm : ∀ s ∈ ss, s.size ≤ 200) (hn : n ≤ 100) :
    Calls Tryd.prog 5 #[.slice A0 n c0] w fun e w' => e = .returned (.string ⟨(sp (bytesAll ss) ++ [13, 10]).toArray⟩) ∧ Below w.heap.size w w' := by
  go_enter Tryd.func5, Tryd.ntmps5
  go_wp2_with (go_at_call 7; refine (DoorLine_calls A0 n c0 ss w hr hm hn).mono ?_)
  rintro e w1 ⟨rfl, hb⟩
  have HB := Aside0.mk hb
  clear hb
  go_wp2
  go_ret
  exact ⟨rfl, HB.out⟩

theorem jTo_sp (ss : List ByteArray) : ∀ k, k ≤ ss.length → (jTo ⟨#[32]⟩ ss k).data.toList = sp (bytesAll (ss.take k))
  | 0, _ => by simp [jTo, bytesAll, sp]
  | k + 1, h => by
    have ih := jTo_sp ss k (by omega)
    rw [bytesAll_take ss k (by omega)]
    by_cases h0 : k = 0
    · subst h0
      rw [jTo_first _ _ _ rfl, ByteArray.data_append, Array.toList_append, ih]
      simp [bytesAll, sp]
    · rw [jTo_next _ _ _ h0, sp_snoc' _ _ (by intro e; have := congrArg List.length e; simp [bytesAll] at this; rcases this with h1 | h1; exact h0 h1; subst h1; simp at h), ByteArray.data_append, ByteArray.data_append, Array.toList_append, Array.toList_append, ih]
theorem line_eq (ss : List ByteArray) (n : Nat) (hn : ss.length = n) : (⟨(sp (bytesAll ss) ++ [13, 10]).toArray⟩ : ByteArray) = jTo ⟨#[32]⟩ ss n ++ ⟨#[13, 10]⟩ := by
  have h := jTo_sp ss n (by omega)
  rw [← hn, List.take_length] at h
  rw [← hn]
  apply ByteArray.ext
  apply Array.ext'
  rw [ByteArray.data_append, Array.toList_append, h]
theorem sAt_le (ss : List ByteArray) (hm : ∀ s ∈ ss, s.size ≤ 200) (j : Nat) : (sAt ss j).size ≤ 200 := by
  by_cases h : j < ss.length
  · rw [sAt_eq ss j h]; exact hm _ (List.getElem_mem h)
  · rw [show sAt ss j = ByteArray.empty by simp [sAt, List.getD_eq_getElem?_getD, List.getElem?_eq_none (Nat.le_of_not_lt h)]]
    exact Nat.zero_le _

set_option maxRecDepth 100000 in
set_option maxHeartbeats 1000000 in
theorem FnAuLine_calls (A0 : Option Addr) (n c0 : Nat) (ss : List ByteArray) (w : World) (hr : ReadsStr w A0 n ss) :
    Calls Tryd.prog 3 #[.slice A0 n c0] w fun e w' => e = .returned (.bool true) ∧ Below w.heap.size w w' := by
  have HR := Aside0.mk hr
  have HL := Aside0.mk hr.1
  have HM := hr.2.1
  clear hr
  cases hf : fits5 ss with
  | false =>
    have HF := Aside0.mk hf
    clear hf
    go_enter Tryd.func3, Tryd.ntmps3
    go_wp2_with (go_at_call 4; refine (zzFits5_calls A0 n c0 ss w HR.out).mono ?_)
    rintro e w1 ⟨rfl, rfl⟩
    rw [HF.out]
    go_wp2
    go_ret
    exact ⟨rfl, Below.refl _ _⟩
  | true =>
    have HF := Aside0.mk hf
    clear hf
    by_cases h100 : n ≤ 100
    · have d1 : decide ((100 : Int) < (n : Int)) = false := decide_eq_false (by omega)
      have d2 : decide (100 < n) = false := decide_eq_false (by omega)
      go_enter Tryd.func3, Tryd.ntmps3
      go_wp2_with (go_at_call 4; refine (zzFits5_calls A0 n c0 ss w HR.out).mono ?_)
      rintro e w1 ⟨rfl, rfl⟩
      rw [HF.out]
      go_wp2
      go_loopg [13] n (fun q v13 w' => ∃ k : Nat, k ≤ n ∧ Aside0 (q = n - k) ∧ v13 = .int .i64 k ∧ w = w' ∧ Aside0 (∀ s ∈ ss.take k, s.size ≤ 200))
      case atStart => exact ⟨0, by omega, ⟨by omega⟩, rfl, rfl, ⟨by simp⟩⟩
      case round =>
        obtain ⟨k, hk, HQ, rfl, rfl, HA⟩ := hrel
        by_cases hlt : k < n
        · obtain ⟨ad, rfl, hcell⟩ := HR.out.at_ k hlt
          have hks : k < ss.length := by rw [HL.out]; exact hlt
          by_cases h2 : (sAt ss k).size ≤ 200
          · have h2b : decide ((200 : Nat) < (sAt ss k).size) = false := decide_eq_false (by omega)
            have h2c : decide ((200 : Int) < ((sAt ss k).size : Int)) = false := decide_eq_false (by omega)
            have HN := Aside0.mk (show ∀ s ∈ ss.take (k + 1), s.size ≤ 200 by
              rw [take_snoc' ss k hks]
              intro s hs
              rcases List.mem_append.1 hs with hs | hs
              · exact HA.out s hs
              · rw [List.mem_singleton.1 hs, ← sAt_eq ss k hks]; exact h2)
            go_wp2
            go_roundg (n - (k+1))
            case measure => have := HQ.out; omega
            case rel => exact ⟨k+1, by omega, ⟨rfl⟩, by go_num, rfl, HN⟩
          · have h2b : decide ((200 : Nat) < (sAt ss k).size) = true := decide_eq_true (by omega)
            have h2c : decide ((200 : Int) < ((sAt ss k).size : Int)) = true := decide_eq_true (by omega)
            go_wp2
            go_ret
            exact ⟨rfl, Below.refl _ _⟩
        · have hkn : k = n := by omega
          subst hkn
          have hall : ∀ s ∈ ss, s.size ≤ 200 := by
            have := HA.out
            rwa [← HL.out, List.take_length] at this
          have HALL := Aside0.mk hall
          have HSZ := Aside0.mk (jTo_size ⟨#[32]⟩ ss 200 (sAt_le ss hall) k)
          clear hall hlt hk
          go_wp2_with (go_at_call 5; refine (AuLine_calls A0 k c0 ss w HR.out HALL.out h100).mono ?_)
          rintro e w1 ⟨rfl, hb⟩
          have HB := Aside0.mk hb
          clear hb
          have HRS := Aside0.mk (show ReadsStr w1 A0 k ss from ⟨HR.out.1, HR.out.2.1, fun j hj => by
            obtain ⟨ad, e, hc⟩ := HR.out.at_ j hj
            exact ⟨ad, e, pw_cell_below HB.out hc⟩⟩)
          go_wp2_with (go_at_call 6; refine (Joined_calls A0 k c0 ss ⟨#[32]⟩ 200 w1 HRS.out (sAt_le ss HALL.out) ?q1).mono ?_)
          case q1 => show k * (1 + 200) ≤ _; omega
          rintro e w2 ⟨rfl, rfl⟩
          have hs1 : (jTo ⟨#[32]⟩ ss k).size + 2 ≤ 9223372036854775807 := by have := HSZ.out; have : k * ((⟨#[32]⟩ : ByteArray).size + 200) = k * 201 := rfl; omega
          have hs1t := eq_true hs1
          have hs1f := eq_false (Nat.not_lt.2 hs1)
          clear hs1
          rw [line_eq ss k HL.out]
          go_wp2
          go_ret
          exact ⟨rfl, HB.out⟩
    · have d1 : decide ((100 : Int) < (n : Int)) = true := decide_eq_true (by omega)
      have d2 : decide (100 < n) = true := decide_eq_true (by omega)
      go_enter Tryd.func3, Tryd.ntmps3
      go_wp2_with (go_at_call 4; refine (zzFits5_calls A0 n c0 ss w HR.out).mono ?_)
      rintro e w1 ⟨rfl, rfl⟩
      rw [HF.out]
      go_wp2
      go_ret
      exact ⟨rfl, Below.refl _ _⟩
end Go.Proofs.YtkmdjpinpjcndaaDoor

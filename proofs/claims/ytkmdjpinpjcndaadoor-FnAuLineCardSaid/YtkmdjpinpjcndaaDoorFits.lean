/-
  The walks of the statement on lines, part 1: how long the words are.
-/
import Derived.Test.YtkmdjpinpjcndaaDoorProg
import Derived.Test.YtkmdjpinpjcndaaDoorWWords
import Derived.WalkKit
import Derived.WalkSpells
import Derived.WalkLawsBesides
import Derived.Outline
import Derived.Test.YtkmdjpinpjcndaaDoorPlain
namespace Go.Proofs.YtkmdjpinpjcndaaDoor
open Go.RowKit Go.Proofs.YtkmdjpinpjcndaaDoorW.PrintWords

/-- The string at a place. -/
def sAt (ss : List ByteArray) (k : Nat) : ByteArray := ss.getD k ByteArray.empty
theorem sAt_eq (ss : List ByteArray) (k : Nat) (h : k < ss.length) : sAt ss k = ss[k] := by simp [sAt, List.getD_eq_getElem?_getD, List.getElem?_eq_getElem h]

def fits5 (ss : List ByteArray) : Bool := decide (ss.length ≤ 2147483647) && ss.all fun s => decide (s.size ≤ 2147483647)

/-- A slice of strings that is read. -/
def ReadsStr (w : World) (A : Option Addr) (n : Nat) (ss : List ByteArray) : Prop :=
  ss.length = n ∧ n ≤ 9223372036854775807 ∧ ∀ j, j < n → ∃ ad, A = some ad ∧ w.cell? (ad.add j) = some (.string (sAt ss j))
theorem ReadsStr.at_ {w : World} {A : Option Addr} {n : Nat} {ss : List ByteArray} (h : ReadsStr w A n ss) (j : Nat) (hj : j < n) : ∃ ad, A = some ad ∧ w.cell? (ad.add j) = some (.string (sAt ss j)) := h.2.2 j hj

theorem fits_step (ss : List ByteArray) (k : Nat) (hk : k < ss.length) (h : (ss.take k).all (fun s => decide (s.size ≤ 2147483647)) = true) (h2 : (sAt ss k).size ≤ 2147483647) :
    (ss.take (k+1)).all (fun s => decide (s.size ≤ 2147483647)) = true := by
  rw [List.take_succ_eq_append_getElem hk, List.all_append, h]
  rw [sAt_eq ss k hk] at h2
  simp [h2]
theorem fits_no (ss : List ByteArray) (k : Nat) (hk : k < ss.length) (h2 : ¬ (sAt ss k).size ≤ 2147483647) : fits5 ss = false := by
  rw [sAt_eq ss k hk] at h2
  unfold fits5
  rw [Bool.and_eq_false_iff]
  right
  rw [List.all_eq_false]
  exact ⟨_, List.getElem_mem hk, by simpa using h2⟩
theorem fits_yes (ss : List ByteArray) (k : Nat) (hk : ¬ k < ss.length) (h1 : ss.length ≤ 2147483647) (h : (ss.take k).all (fun s => decide (s.size ≤ 2147483647)) = true) : fits5 ss = true := by
  rw [List.take_of_length_le (by omega)] at h
  unfold fits5
  simp [h, h1]
theorem fits_long (ss : List ByteArray) (h1 : ¬ ss.length ≤ 2147483647) : fits5 ss = false := by
  unfold fits5; simp [h1]

set_option maxRecDepth 100000 in
theorem zzFits5_calls (A0 : Option Addr) (n c0 : Nat) (ss : List ByteArray) (w : World) (hr : ReadsStr w A0 n ss) :
    Calls Tryd.prog 4 #[.slice A0 n c0] w fun e w' => e = .returned (.bool (fits5 ss)) ∧ w = w' := by
  have HL := Aside0.mk hr.1
  have HM := hr.2.1
  have HR := Aside0.mk hr
  clear hr
  by_cases h1 : n ≤ 2147483647
  · have h1b : decide ((2147483647 : Nat) < n) = false := decide_eq_false (by omega)
    have h1c : decide ((2147483647 : Int) < (n:Int)) = false := decide_eq_false (by omega)
    go_enter Tryd.func4, Tryd.ntmps4
    go_wp2
    go_loopg [10] n (fun q v10 w' => ∃ k : Nat, k ≤ n ∧ q = n - k ∧ v10 = .int .i64 k ∧ w = w' ∧ Aside0 ((ss.take k).all (fun s => decide (s.size ≤ 2147483647)) = true))
    case atStart => exact ⟨0, by omega, by omega, rfl, rfl, ⟨by simp⟩⟩
    case round =>
      obtain ⟨k, hk, hq, rfl, rfl, HA⟩ := hrel
      have HQ := Aside0.mk hq
      clear hq
      by_cases hlt : k < n
      · obtain ⟨ad, rfl, hcell⟩ := HR.out.at_ k hlt
        by_cases h2 : (sAt ss k).size ≤ 2147483647
        · have h2b : decide ((2147483647 : Nat) < (sAt ss k).size) = false := decide_eq_false (by omega)
          have h2c : decide ((2147483647 : Int) < ((sAt ss k).size : Int)) = false := decide_eq_false (by omega)
          go_wp2
          go_roundg (n - (k+1))
          case measure => have := HQ.out; omega
          case rel => exact ⟨k+1, by omega, rfl, by go_num, rfl, ⟨fits_step ss k (by rw [HL.out]; exact hlt) HA.out h2⟩⟩
        · have hf := Aside0.mk (fits_no ss k (by rw [HL.out]; exact hlt) h2)
          go_wp2
          go_ret
          exact ⟨by rw [hf.out]; rfl, rfl⟩
      · have hf := Aside0.mk (fits_yes ss k (by rw [HL.out]; exact hlt) (by rw [HL.out]; exact h1) HA.out)
        go_wp2
        go_ret
        exact ⟨by rw [hf.out]; rfl, rfl⟩
  · have hf := Aside0.mk (fits_long ss (by rw [HL.out]; exact h1))
    go_enter Tryd.func4, Tryd.ntmps4
    go_wp2
    go_ret
    exact ⟨by rw [hf.out]; rfl, rfl⟩
end Go.Proofs.YtkmdjpinpjcndaaDoor

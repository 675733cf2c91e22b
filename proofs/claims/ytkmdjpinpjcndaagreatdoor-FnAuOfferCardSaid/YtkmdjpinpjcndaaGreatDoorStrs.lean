/-
  The walks over the offered names: how long they are; joined; a mechanism's name.
-/
import Derived.Test.YtkmdjpinpjcndaaGreatDoorPlains
namespace Go.Proofs.YtkmdjpinpjcndaaGreatDoor
open Go.RowKit Go.Proofs.YtkmdjpinpjcndaaGreatDoorW.PrintWords
variable {P D : Nat → Prop} {w w1 w2 : World}

set_option maxRecDepth 100000 in
theorem fits5_calls (A : Option Addr) (n c : Nat) (ss : List ByteArray) (w : World) (hr : ReadsS D w A ss) (hn : ss.length = n) (hm : n ≤ 9223372036854775807) :
    Calls Tryz.prog 7 #[.slice A n c] w fun e w' => SomeBool e ∧ w = w' := by
  have HR := Aside0.mk hr
  have HN := Aside0.mk hn
  clear hr hn
  by_cases h1 : n ≤ 2147483647
  · have h1b : decide ((2147483647 : Nat) < n) = false := decide_eq_false (by omega)
    have h1c : decide ((2147483647 : Int) < (n:Int)) = false := decide_eq_false (by omega)
    go_enter Tryz.func7, Tryz.ntmps7
    go_wp2
    go_loopg [10] n (fun q v10 w' => ∃ k : Nat, k ≤ n ∧ Aside0 (q = n - k) ∧ v10 = .int .i64 k ∧ w = w')
    case atStart => exact ⟨0, by omega, ⟨by omega⟩, rfl, rfl⟩
    case round =>
      obtain ⟨k, hk, HQ, rfl, rfl⟩ := hrel
      by_cases hlt : k < n
      · obtain ⟨b, o, rfl, _, hcell⟩ := HR.out k (by rw [HN.out]; exact hlt)
        by_cases h2 : (sAt ss k).size ≤ 2147483647
        · have h2b : decide ((2147483647 : Nat) < (sAt ss k).size) = false := decide_eq_false (by omega)
          have h2c : decide ((2147483647 : Int) < ((sAt ss k).size : Int)) = false := decide_eq_false (by omega)
          go_wp2
          go_roundg (n - (k+1))
          case measure => have := HQ.out; omega
          case rel => exact ⟨k+1, by omega, ⟨rfl⟩, by go_num, rfl⟩
        · have h2b : decide ((2147483647 : Nat) < (sAt ss k).size) = true := decide_eq_true (by omega)
          have h2c : decide ((2147483647 : Int) < ((sAt ss k).size : Int)) = true := decide_eq_true (by omega)
          go_wp2
          go_ret
          exact ⟨⟨⟨_, rfl⟩⟩, rfl⟩
      · have hkn : k = n := by omega
        subst hkn
        go_wp2
        go_ret
        exact ⟨⟨⟨_, rfl⟩⟩, rfl⟩
  · have h1b : decide ((2147483647 : Nat) < n) = true := decide_eq_true (by omega)
    have h1c : decide ((2147483647 : Int) < (n:Int)) = true := decide_eq_true (by omega)
    go_enter Tryz.func7, Tryz.ntmps7
    go_wp2
    go_ret
    exact ⟨⟨⟨_, rfl⟩⟩, rfl⟩

/-- What is joined behind k rounds. -/
def jTo (sep : ByteArray) (ss : List ByteArray) : Nat → ByteArray
  | 0 => ⟨#[]⟩
  | k + 1 => (if k = 0 then jTo sep ss k else jTo sep ss k ++ sep) ++ sAt ss k
theorem jTo_first (sep : ByteArray) (ss : List ByteArray) (k : Nat) (h : k = 0) : jTo sep ss (k + 1) = jTo sep ss k ++ sAt ss k := by rw [jTo, if_pos h]
theorem jTo_next (sep : ByteArray) (ss : List ByteArray) (k : Nat) (h : ¬ k = 0) : jTo sep ss (k + 1) = jTo sep ss k ++ sep ++ sAt ss k := by rw [jTo, if_neg h]
theorem jTo_size (sep : ByteArray) (ss : List ByteArray) (m : Nat) (hm : ∀ j, (sAt ss j).size ≤ m) : ∀ k, (jTo sep ss k).size ≤ k * (sep.size + m)
  | 0 => Nat.zero_le _
  | k + 1 => by
    have ih := jTo_size sep ss m hm k
    have := hm k
    rw [Nat.add_mul]
    by_cases h : k = 0
    · rw [jTo_first sep ss k h, ByteArray.size_append]; omega
    · rw [jTo_next sep ss k h, ByteArray.size_append, ByteArray.size_append]; omega

set_option maxRecDepth 100000 in
theorem Joined_calls (A : Option Addr) (n c : Nat) (ss : List ByteArray) (sep : ByteArray) (m : Nat) (w : World) (hr : ReadsS D w A ss) (hn : ss.length = n) (hM : n ≤ 9223372036854775807) (hm : ∀ j, (sAt ss j).size ≤ m) (hlim : n * (sep.size + m) ≤ 1000000000) :
    Calls Tryz.prog 11 #[.slice A n c, .string sep] w fun e w' => e = .returned (.string (jTo sep ss n)) ∧ w = w' := by
  have HL := Aside0.mk hn
  have HR := Aside0.mk hr
  have HLIM := Aside0.mk hlim
  have HMM := Aside0.mk hm
  clear hr hlim hm hn
  go_enter Tryz.func11, Tryz.ntmps11
  go_wp2
  go_loopg [5, 10] n (fun q v5 v10 w' => ∃ k : Nat, k ≤ n ∧ Aside0 (q = n - k) ∧ v5 = .string (jTo sep ss k) ∧ v10 = .int .i64 k ∧ w = w')
  case atStart => exact ⟨0, by omega, ⟨by omega⟩, rfl, rfl, rfl⟩
  case round =>
    obtain ⟨k, hk, HQ, rfl, rfl, rfl⟩ := hrel
    by_cases hlt : k < n
    · obtain ⟨b, o, rfl, _, hcell⟩ := HR.out k (by rw [HL.out]; exact hlt)
      have hsz : (k + 1) * (sep.size + m) ≤ n * (sep.size + m) := Nat.mul_le_mul_right _ hlt
      have hs1 := jTo_size sep ss m HMM.out k
      have hs2 := HMM.out k
      have hs3 := HLIM.out
      rw [Nat.add_mul] at hsz
      have b1 : (jTo sep ss k).size + sep.size ≤ 9223372036854775807 := by omega
      have b2 : (jTo sep ss k ++ sep).size + (sAt ss k).size ≤ 9223372036854775807 := by rw [ByteArray.size_append]; omega
      have b3 : (jTo sep ss k).size + (sAt ss k).size ≤ 9223372036854775807 := by omega
      have b4 : (jTo sep ss k).size + sep.size + (sAt ss k).size ≤ 9223372036854775807 := by omega
      clear hsz hs1 hs2 hs3
      have b1t := eq_true b1
      have b2t := eq_true b2
      have b3t := eq_true b3
      have b4t := eq_true b4
      have b4f := eq_false (Nat.not_lt.2 b4)
      have b1f := eq_false (Nat.not_lt.2 b1)
      have b2f := eq_false (Nat.not_lt.2 b2)
      have b3f := eq_false (Nat.not_lt.2 b3)
      clear b1 b2 b3 b4
      by_cases h0 : k = 0
      · have hd : decide ((0 : Int) < (k : Int)) = false := decide_eq_false (by omega)
        have hd2 : decide (0 < k) = false := decide_eq_false (by omega)
        have hj := Aside0.mk (jTo_first sep ss k h0)
        clear h0
        go_wp2
        go_roundg (n - (k+1))
        case measure => have := HQ.out; omega
        case rel => exact ⟨k+1, by omega, ⟨rfl⟩, by rw [hj.out], by go_num, rfl⟩
      · have hd : decide ((0 : Int) < (k : Int)) = true := decide_eq_true (by omega)
        have hd2 : decide (0 < k) = true := decide_eq_true (by omega)
        have hj := Aside0.mk (jTo_next sep ss k h0)
        clear h0
        go_wp2
        go_roundg (n - (k+1))
        case measure => have := HQ.out; omega
        case rel => exact ⟨k+1, by omega, ⟨rfl⟩, by rw [hj.out], by go_num, rfl⟩
    · have hkn : k = n := by omega
      subst hkn
      go_wp2
      go_ret
      exact ⟨rfl, rfl⟩

set_option maxRecDepth 100000 in
theorem name_calls (k f : Int) (name : ByteArray) (aa : Option Addr) (an ac : Nat) (w : World) (hk : k = 0 ∨ k = 1 ∨ k = 2) :
    Calls Tryz.prog 12 #[.agg #[.int .u8 k, .string name, .int .u8 f, .slice aa an ac]] w fun e w' => e = .returned (.string ⟨(mName ⟨k, name, f, aa, an, ac⟩).toArray⟩) ∧ Below w.heap.size w w' := by
  rcases hk with rfl | rfl | rfl
  · go_enter Tryz.func12, Tryz.ntmps12
    go_wp2
    go_ret
    exact ⟨rfl, (Below.refl _ w).alloc (Nat.le_refl _) _⟩
  · go_enter Tryz.func12, Tryz.ntmps12
    go_wp2
    go_ret
    exact ⟨rfl, (Below.refl _ w).alloc (Nat.le_refl _) _⟩
  · go_enter Tryz.func12, Tryz.ntmps12
    go_wp2
    go_ret
    exact ⟨rfl, (Below.refl _ w).alloc (Nat.le_refl _) _⟩
end Go.Proofs.YtkmdjpinpjcndaaGreatDoor

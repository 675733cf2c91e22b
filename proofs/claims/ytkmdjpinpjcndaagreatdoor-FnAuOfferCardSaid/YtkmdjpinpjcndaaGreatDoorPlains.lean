/-
  The walk of the guard on names and answers: none with a carriage return or a line feed.
-/
import Derived.Test.YtkmdjpinpjcndaaGreatDoorGuards
namespace Go.Proofs.YtkmdjpinpjcndaaGreatDoor
open Go.RowKit Go.Proofs.YtkmdjpinpjcndaaGreatDoorW.PrintWords
variable {P D : Nat → Prop} {w w1 w2 : World}

set_option maxRecDepth 100000 in
set_option maxHeartbeats 4000000 in
theorem plain_calls (A : Option Addr) (n c : Nat) (ml : List M4) (w : World) (hr : ReadsF w A ml) (hn : ml.length = n) (hn8 : n ≤ 8) (hg : ∀ i, i < ml.length → Good (mAt ml i) ∧ Short (fun k => k < w.heap.size) w (mAt ml i).aa (mAt ml i).an) :
    Calls Tryz.prog 10 #[.slice A n c] w fun e w' => SomeBool e ∧ Below w.heap.size w w' := by
  have HR := Aside0.mk hr
  have HN := Aside0.mk hn
  have HG := Aside0.mk hg
  clear hr hn hg
  go_enter Tryz.func10, Tryz.ntmps10
  go_wp2
  go_loopg [11] n (fun q v11 w' => ∃ k : Nat, k ≤ n ∧ Aside0 (q = n - k) ∧ v11 = .int .i64 k ∧ Aside0 (Below w.heap.size w w'))
  case atStart => exact ⟨0, by omega, ⟨by omega⟩, rfl, ⟨Below.refl _ _⟩⟩
  case round =>
    obtain ⟨k, hk, HQ, rfl, HB⟩ := hrel
    by_cases hlt : k < n
    · have hkl : k < ml.length := by rw [HN.out]; exact hlt
      have HFX := Aside0.mk (show Fix (fun k => k < w.heap.size) w wr from Fix.ofBelow HB.out fun k hk => hk)
      obtain ⟨b, o, rfl, _, h0, h1, h2, h3⟩ := (HR.out.2.1.fix HFX.out) k hkl
      have HGK := Aside0.mk (HG.out k hkl)
      have HAS := Aside0.mk (HR.out.2.2 k hkl).1
      generalize mAt ml k = m at h0 h1 h2 h3 HGK HAS
      obtain ⟨kk, name, f, aa, an, ac⟩ := m
      simp only at h0 h1 h2 h3
      have HAN := Aside0.mk (show name.size ≤ 200 ∧ an ≤ 20 from HGK.out.1.2.2)
      have han : an ≤ 20 := HAN.out.2
      have HAL := Aside0.mk (show Below w.heap.size w (wr.alloc (.cells #[.int .u8 kk, .string name, .int .u8 f, .slice aa an ac] 29)) from HB.out.alloc HB.out.size _)
      go_wp2
      go_loopg [5, 20] an (fun q v5 v20 w' => ∃ (j : Nat) (s : ByteArray), j ≤ an ∧ Aside0 (q = an - j) ∧ v5 = .string s ∧ v20 = .int .i64 j ∧ Aside0 (s.size ≤ 200 + j * 200) ∧ Aside0 (Below w.heap.size w w'))
      case atStart => exact ⟨0, name, by omega, ⟨by omega⟩, rfl, rfl, ⟨by have := HAN.out; omega⟩, HAL⟩
      case round =>
        obtain ⟨j, s, hj, HQ2, rfl, rfl, HSZ, HB2⟩ := hrel
        by_cases hlt2 : j < an
        · obtain ⟨b2, o2, t, he2, hb2, g0, htt⟩ := HGK.out.2 j hlt2
          obtain ⟨b3, o3, t3, q3, he3, hb3, g3, g4, _⟩ := HAS.out.2 j hlt2
          have he3 : aa = some ⟨b3, o3, none⟩ := he3
          rw [he2] at he3
          injection he3 with he3
          injection he3 with e1 e2
          subst e1 e2 he2
          have ht3 : t3 = t := by
            rw [g0] at g3
            injection g3 with g3
            injection g3 with g3
            exact g3.symm
          subst ht3
          have HFY := Aside0.mk (show Fix (fun k => k < w.heap.size) w _ from Fix.ofBelow HB2.out fun k hk => hk)
          replace g3 := (HFY.out.cell (a := ⟨b2, o2 + j * 2, none⟩) hb2).trans g0
          replace g4 := (HFY.out.cell (a := ⟨b2, o2 + j * 2 + 1, none⟩) hb2).trans g4
          have hb1 : s.size + t3.size ≤ 9223372036854775807 := by have := HSZ.out; omega
          have b1t := eq_true hb1
          have b1f := eq_false (Nat.not_lt.2 hb1)
          have HTT := Aside0.mk htt
          clear hb1 g0 htt
          go_wp2
          go_roundg (an - (j+1))
          case measure => have := HQ2.out; omega
          case rel => exact ⟨j + 1, s ++ t3, by omega, ⟨rfl⟩, rfl, by go_num, ⟨by have := HSZ.out; have := HTT.out; rw [ByteArray.size_append]; omega⟩, ⟨HB2.out.alloc HB2.out.size _⟩⟩
        · have hjn : j = an := by omega
          subst hjn
          have hss : (s.size : Int) ≤ 10000 := by have := HSZ.out; omega
          go_wp2
          go_loopg [8] s.size (fun q v8 w' => ∃ i : Nat, i ≤ s.size ∧ Aside0 (q = s.size - i) ∧ v8 = .int .i64 i ∧ Aside0 (Below w.heap.size w w'))
          case atStart => exact ⟨0, by omega, ⟨by omega⟩, rfl, HB2⟩
          case round =>
            obtain ⟨i, hi, HQ3, rfl, HB3⟩ := hrel
            by_cases hlt3 : i < s.size
            · go_wp2
              all_goals first
                | (go_ret; exact ⟨⟨⟨_, rfl⟩⟩, HB3.out⟩)
                | skip
              go_roundg (s.size - (i+1))
              case measure => have := HQ3.out; omega
              case rel => exact ⟨i + 1, by omega, ⟨rfl⟩, by go_num, HB3⟩
            · have hin : i = s.size := by omega
              subst hin
              go_wp2
              go_roundg (n - (k+1))
              case measure => have := HQ.out; omega
              case rel => exact ⟨k + 1, by omega, ⟨rfl⟩, by go_num, HB3⟩
    · have hkn : k = n := by omega
      subst hkn
      go_wp2
      go_ret
      exact ⟨⟨⟨_, rfl⟩⟩, HB.out⟩
end Go.Proofs.YtkmdjpinpjcndaaGreatDoor

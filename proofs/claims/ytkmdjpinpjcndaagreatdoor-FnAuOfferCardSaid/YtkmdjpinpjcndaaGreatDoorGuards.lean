/-
  The walks of the guards: sizes, and what a mechanism may be.
-/
import Derived.Test.YtkmdjpinpjcndaaGreatDoorRun
namespace Go.Proofs.YtkmdjpinpjcndaaGreatDoor
open Go.RowKit Go.Proofs.YtkmdjpinpjcndaaGreatDoorW.PrintWords
variable {P D : Nat → Prop} {w w1 w2 : World}

/-- Yes or no. -/
structure SomeBool (e : Ending) : Prop where mk :: (out : ∃ r, e = .returned (.bool r))
/-- Answers that are read, in a block of D. -/
def Ans (D : Nat → Prop) (w : World) (aa : Option Addr) (an : Nat) : Prop :=
  an ≤ 9223372036854775807 ∧ ∀ j, j < an → ∃ (b o : Nat) (t : ByteArray) (q : Int), aa = some ⟨b, o, none⟩ ∧ D b ∧ w.cell? ⟨b, o + j * 2, none⟩ = some (.string t) ∧ w.cell? ⟨b, o + j * 2 + 1, none⟩ = some (.int .u8 q) ∧ t.size ≤ 9223372036854775807
theorem Ans.fix {aa : Option Addr} {an : Nat} (h : Ans D w aa an) (hf : Fix D w w1) : Ans D w1 aa an := ⟨h.1, fun j hj => by
  obtain ⟨b, o, t, q, e, hD, h0, h1, hs⟩ := h.2 j hj
  exact ⟨b, o, t, q, e, hD, (hf.cell (a := ⟨b, o + j * 2, none⟩) hD).trans h0, (hf.cell (a := ⟨b, o + j * 2 + 1, none⟩) hD).trans h1, hs⟩⟩
theorem Ans.mono {aa : Option Addr} {an : Nat} (h : Ans D w aa an) (hD : ∀ k, D k → P k) : Ans P w aa an := ⟨h.1, fun j hj => by
  obtain ⟨b, o, t, q, e, hd, r⟩ := h.2 j hj
  exact ⟨b, o, t, q, e, hD _ hd, r⟩⟩

set_option maxRecDepth 100000 in
theorem fits4 (t : ByteArray) (q : Int) (w : World) (ht : t.size ≤ 9223372036854775807) : Calls Tryz.prog 40 #[.agg #[.string t, .int .u8 q]] w fun e w' => SomeBool e ∧ Below w.heap.size w w' := by
  by_cases h : t.size ≤ 2147483647
  · have d1 : decide ((2147483647 : Int) < (t.size : Int)) = false := decide_eq_false (by omega)
    have d2 : decide (2147483647 < t.size) = false := decide_eq_false (by omega)
    go_enter Tryz.func40, Tryz.ntmps40
    go_wp2
    go_ret
    exact ⟨⟨⟨_, rfl⟩⟩, (Below.refl _ w).alloc (Nat.le_refl _) _⟩
  · have d1 : decide ((2147483647 : Int) < (t.size : Int)) = true := decide_eq_true (by omega)
    have d2 : decide (2147483647 < t.size) = true := decide_eq_true (by omega)
    go_enter Tryz.func40, Tryz.ntmps40
    go_wp2
    go_ret
    exact ⟨⟨⟨_, rfl⟩⟩, (Below.refl _ w).alloc (Nat.le_refl _) _⟩

set_option maxRecDepth 100000 in
set_option maxHeartbeats 1000000 in
theorem fits3 (aa : Option Addr) (an ac : Nat) (w : World) (h : Ans (fun k => k < w.heap.size) w aa an) : Calls Tryz.prog 31 #[.slice aa an ac] w fun e w' => SomeBool e ∧ Below w.heap.size w w' := by
  have hm := h.1
  have HA := Aside0.mk h
  clear h
  by_cases hb : an ≤ 2147483647
  · have d1 : decide ((2147483647 : Int) < (an : Int)) = false := decide_eq_false (by omega)
    have d2 : decide (2147483647 < an) = false := decide_eq_false (by omega)
    go_enter Tryz.func31, Tryz.ntmps31
    go_wp2
    go_loopg [10] an (fun q v10 w' => ∃ k : Nat, k ≤ an ∧ Aside0 (q = an - k) ∧ v10 = .int .i64 k ∧ Aside0 (Below w.heap.size w w'))
    case atStart => exact ⟨0, by omega, ⟨by omega⟩, rfl, ⟨Below.refl _ _⟩⟩
    case round =>
      obtain ⟨k, hk, HQ, rfl, HB⟩ := hrel
      by_cases hlt : k < an
      · obtain ⟨b, o, t, q, rfl, _, h0, h1, hs⟩ := (HA.out.fix (Fix.ofBelow HB.out fun k hk => hk)).2 k hlt
        go_wp2_with (go_at_call 40; refine (fits4 t q _ hs).mono ?_)
        rintro e w2 ⟨⟨⟨r, rfl⟩⟩, hb2⟩
        have HB2 := Aside0.mk ((HB.out.alloc HB.out.size _).trans (hb2.mono (by have := HB.out.size; simp; omega)))
        clear hb2
        cases r
        · go_wp2
          go_ret
          exact ⟨⟨⟨_, rfl⟩⟩, HB2.out⟩
        · go_wp2
          go_roundg (an - (k+1))
          case measure => have := HQ.out; omega
          case rel => exact ⟨k + 1, by omega, ⟨rfl⟩, by go_num, HB2⟩
      · have hkn : k = an := by omega
        subst hkn
        go_wp2
        go_ret
        exact ⟨⟨⟨_, rfl⟩⟩, HB.out⟩
  · have d1 : decide ((2147483647 : Int) < (an : Int)) = true := decide_eq_true (by omega)
    have d2 : decide (2147483647 < an) = true := decide_eq_true (by omega)
    go_enter Tryz.func31, Tryz.ntmps31
    go_wp2
    go_ret
    exact ⟨⟨⟨_, rfl⟩⟩, Below.refl _ _⟩

set_option maxRecDepth 100000 in
set_option maxHeartbeats 1000000 in
theorem fits2 (k f : Int) (name : ByteArray) (aa : Option Addr) (an ac : Nat) (w : World) (h : Ans (fun k => k < w.heap.size) w aa an) (hn : name.size ≤ 9223372036854775807) : Calls Tryz.prog 20 #[.agg #[.int .u8 k, .string name, .int .u8 f, .slice aa an ac]] w fun e w' => SomeBool e ∧ Below w.heap.size w w' := by
  have HB0 := Aside0.mk (show Below w.heap.size w (w.alloc (.cells #[.int .u8 k, .string name, .int .u8 f, .slice aa an ac] 29)) from (Below.refl _ w).alloc (Nat.le_refl _) _)
  have HF := Aside0.mk (fits3 aa an ac (w.alloc (.cells #[.int .u8 k, .string name, .int .u8 f, .slice aa an ac] 29)) ((h.fix (Fix.ofBelow HB0.out fun k hk => hk)).mono fun k hk => by simp; omega))
  clear h
  by_cases h : name.size ≤ 2147483647
  · have d1 : decide ((2147483647 : Int) < (name.size : Int)) = false := decide_eq_false (by omega)
    have d2 : decide (2147483647 < name.size) = false := decide_eq_false (by omega)
    go_enter Tryz.func20, Tryz.ntmps20
    go_wp2_with (go_at_call 31; refine HF.out.mono ?_)
    rintro e w2 ⟨⟨⟨r, rfl⟩⟩, hb2⟩
    have HB2 := Aside0.mk (HB0.out.trans (hb2.mono HB0.out.size))
    clear hb2
    cases r
    · go_wp2
      go_ret
      exact ⟨⟨⟨_, rfl⟩⟩, HB2.out⟩
    · go_wp2
      go_ret
      exact ⟨⟨⟨_, rfl⟩⟩, HB2.out⟩
  · have d1 : decide ((2147483647 : Int) < (name.size : Int)) = true := decide_eq_true (by omega)
    have d2 : decide (2147483647 < name.size) = true := decide_eq_true (by omega)
    go_enter Tryz.func20, Tryz.ntmps20
    go_wp2
    go_ret
    exact ⟨⟨⟨_, rfl⟩⟩, HB0.out⟩

/-- Mechanisms that are read, with their answers. -/
def ReadsF (w : World) (A : Option Addr) (ml : List M4) : Prop :=
  ml.length ≤ 9223372036854775807 ∧ ReadsM (fun k => k < w.heap.size) w A ml ∧ ∀ i, i < ml.length → Ans (fun k => k < w.heap.size) w (mAt ml i).aa (mAt ml i).an ∧ (mAt ml i).name.size ≤ 9223372036854775807

set_option maxRecDepth 100000 in
set_option maxHeartbeats 2000000 in
theorem fits1 (A : Option Addr) (n c : Nat) (ml : List M4) (w : World) (h : ReadsF w A ml) (hn : ml.length = n) : Calls Tryz.prog 8 #[.slice A n c] w fun e w' => SomeBool e ∧ Below w.heap.size w w' := by
  have hm : n ≤ 9223372036854775807 := hn ▸ h.1
  have HA := Aside0.mk h
  have HN := Aside0.mk hn
  clear h hn
  by_cases hb : n ≤ 2147483647
  · have d1 : decide ((2147483647 : Int) < (n : Int)) = false := decide_eq_false (by omega)
    have d2 : decide (2147483647 < n) = false := decide_eq_false (by omega)
    go_enter Tryz.func8, Tryz.ntmps8
    go_wp2
    go_loopg [10] n (fun q v10 w' => ∃ k : Nat, k ≤ n ∧ Aside0 (q = n - k) ∧ v10 = .int .i64 k ∧ Aside0 (Below w.heap.size w w'))
    case atStart => exact ⟨0, by omega, ⟨by omega⟩, rfl, ⟨Below.refl _ _⟩⟩
    case round =>
      obtain ⟨k, hk, HQ, rfl, HB⟩ := hrel
      by_cases hlt : k < n
      · have hkl : k < ml.length := by rw [HN.out]; exact hlt
        have HFX := Aside0.mk (show Fix (fun k => k < w.heap.size) w wr from Fix.ofBelow HB.out fun k hk => hk)
        obtain ⟨b, o, rfl, _, h0, h1, h2, h3⟩ := (HA.out.2.1.fix HFX.out) k hkl
        have HAN := Aside0.mk (HA.out.2.2 k hkl)
        generalize mAt ml k = m at h0 h1 h2 h3 HAN
        obtain ⟨kk, name, f, aa, an, ac⟩ := m
        simp only at h0 h1 h2 h3
        have HF2 := Aside0.mk (fits2 kk f name aa an ac (wr.alloc (.cells #[.int .u8 kk, .string name, .int .u8 f, .slice aa an ac] 29)) (((HAN.out.1.fix HFX.out).fix (Fix.ofBelow ((Below.refl wr.heap.size wr).alloc (Nat.le_refl _) _) fun k hk => Nat.lt_of_lt_of_le hk HB.out.size)).mono fun k hk => by have := HB.out.size; simp; omega) HAN.out.2)
        go_wp2_with (go_at_call 20; refine HF2.out.mono ?_; rintro e w2 ⟨⟨⟨r, rfl⟩⟩, hb2⟩; have HB2 := Aside0.mk ((HB.out.alloc HB.out.size _).trans (hb2.mono (by have := HB.out.size; simp; omega))); clear hb2; generalize hrr : r = rr; have HRR := Aside0.mk hrr; clear hrr; cases rr)
        · go_wp2
          go_ret
          exact ⟨⟨⟨_, rfl⟩⟩, HB2.out⟩
        · go_wp2
          go_roundg (n - (k+1))
          case measure => have := HQ.out; omega
          case rel => exact ⟨k + 1, by omega, ⟨rfl⟩, by go_num, HB2⟩
      · have hkn : k = n := by omega
        subst hkn
        go_wp2
        go_ret
        exact ⟨⟨⟨_, rfl⟩⟩, HB.out⟩
  · have d1 : decide ((2147483647 : Int) < (n : Int)) = true := decide_eq_true (by omega)
    have d2 : decide (2147483647 < n) = true := decide_eq_true (by omega)
    go_enter Tryz.func8, Tryz.ntmps8
    go_wp2
    go_ret
    exact ⟨⟨⟨_, rfl⟩⟩, Below.refl _ _⟩

/-- What a good mechanism is. -/
def Good (m : M4) : Prop := (m.k = 0 ∨ m.k = 1 ∨ m.k = 2) ∧ (m.f = 0 ∨ m.f = 1) ∧ m.name.size ≤ 200 ∧ m.an ≤ 20
/-- Answers of at most 200 bytes. -/
def Short (D : Nat → Prop) (w : World) (aa : Option Addr) (an : Nat) : Prop :=
  ∀ j, j < an → ∃ (b o : Nat) (t : ByteArray), aa = some ⟨b, o, none⟩ ∧ D b ∧ w.cell? ⟨b, o + j * 2, none⟩ = some (.string t) ∧ t.size ≤ 200
def GoodPost (w : World) (ml : List M4) (e : Ending) : Prop := e = .returned (.bool false) ∨ (e = .returned (.bool true) ∧ ml.length ≤ 8 ∧ ∀ i, i < ml.length → Good (mAt ml i) ∧ Short (fun k => k < w.heap.size) w (mAt ml i).aa (mAt ml i).an)

set_option maxRecDepth 100000 in
set_option maxHeartbeats 4000000 in
theorem good_calls (A : Option Addr) (n c : Nat) (ml : List M4) (w : World) (h : ReadsF w A ml) (hn : ml.length = n) (h0f : ∀ i, i < ml.length → 0 ≤ (mAt ml i).k ∧ 0 ≤ (mAt ml i).f) : Calls Tryz.prog 9 #[.slice A n c] w fun e w' => GoodPost w ml e ∧ Below w.heap.size w w' := by
  have hm : n ≤ 9223372036854775807 := hn ▸ h.1
  have HA := Aside0.mk h
  have HN := Aside0.mk hn
  have H0 := Aside0.mk h0f
  clear h hn h0f
  by_cases hb : n ≤ 8
  · have d1 : decide ((8 : Int) < (n : Int)) = false := decide_eq_false (by omega)
    have d2 : decide (8 < n) = false := decide_eq_false (by omega)
    go_enter Tryz.func9, Tryz.ntmps9
    go_wp2
    go_loopg [12] n (fun q v12 w' => ∃ k : Nat, k ≤ n ∧ Aside0 (q = n - k) ∧ v12 = .int .i64 k ∧ Aside0 (∀ i, i < k → Good (mAt ml i) ∧ Short (fun k => k < w.heap.size) w (mAt ml i).aa (mAt ml i).an) ∧ Aside0 (Below w.heap.size w w'))
    case atStart => exact ⟨0, by omega, ⟨by omega⟩, rfl, ⟨fun i hi => by omega⟩, ⟨Below.refl _ _⟩⟩
    case round =>
      obtain ⟨k, hk, HQ, rfl, HG, HB⟩ := hrel
      by_cases hlt : k < n
      · have hkl : k < ml.length := by rw [HN.out]; exact hlt
        have HFX := Aside0.mk (show Fix (fun k => k < w.heap.size) w wr from Fix.ofBelow HB.out fun k hk => hk)
        obtain ⟨b, o, rfl, _, h0, h1, h2, h3⟩ := (HA.out.2.1.fix HFX.out) k hkl
        have HAN := Aside0.mk (HA.out.2.2 k hkl)
        have HZ := Aside0.mk (H0.out k hkl)
        generalize hmm : mAt ml k = m at h0 h1 h2 h3 HAN HZ
        have HMM := Aside0.mk hmm
        clear hmm
        obtain ⟨kk, name, f, aa, an, ac⟩ := m
        simp only at h0 h1 h2 h3
        by_cases hkk : kk ≤ 2
        · have e1 : decide ((2 : Int) < kk) = false := decide_eq_false (by omega)
          by_cases hff : f ≤ 1
          · have e2 : decide ((1 : Int) < f) = false := decide_eq_false (by omega)
            by_cases hnn : name.size ≤ 200
            · have e3 : decide ((200 : Int) < (name.size : Int)) = false := decide_eq_false (by omega)
              have e3' : decide (200 < name.size) = false := decide_eq_false (by omega)
              by_cases haa : an ≤ 20
              · have e4 : decide ((20 : Int) < (an : Int)) = false := decide_eq_false (by omega)
                have e4' : decide (20 < an) = false := decide_eq_false (by omega)
                have HGM := Aside0.mk (show Good ⟨kk, name, f, aa, an, ac⟩ from ⟨by have h1 := HZ.out.1; simp only at h1; show kk = 0 ∨ kk = 1 ∨ kk = 2; omega, by have h1 := HZ.out.2; simp only at h1; show f = 0 ∨ f = 1; omega, hnn, haa⟩)
                have HAL := Aside0.mk (show Below w.heap.size w (wr.alloc (.cells #[.int .u8 kk, .string name, .int .u8 f, .slice aa an ac] 29)) from HB.out.alloc HB.out.size _)
                go_wp2
                go_loopg [39] an (fun q v39 w' => ∃ j : Nat, j ≤ an ∧ Aside0 (q = an - j) ∧ v39 = .int .i64 j ∧ Aside0 (∀ i, i < j → ∃ (b o : Nat) (t : ByteArray), aa = some ⟨b, o, none⟩ ∧ b < w.heap.size ∧ w.cell? ⟨b, o + i * 2, none⟩ = some (.string t) ∧ t.size ≤ 200) ∧ Aside0 (Below w.heap.size w w'))
                case atStart => exact ⟨0, by omega, ⟨by omega⟩, rfl, ⟨fun i hi => by omega⟩, HAL⟩
                case round =>
                  obtain ⟨j, hj, HQ2, rfl, HSH, HB2⟩ := hrel
                  by_cases hlt2 : j < an
                  · obtain ⟨b2, o2, t, qq, rfl, hb2, g0, g1, _⟩ := HAN.out.1.2 j hlt2
                    have HFY := Aside0.mk (show Fix (fun k => k < w.heap.size) w _ from Fix.ofBelow HB2.out fun k hk => hk)
                    have HG0 := Aside0.mk g0
                    replace g0 := (HFY.out.cell (a := ⟨b2, o2 + j * 2, none⟩) hb2).trans g0
                    replace g1 := (HFY.out.cell (a := ⟨b2, o2 + j * 2 + 1, none⟩) hb2).trans g1
                    by_cases hqq : qq ≤ 2
                    · have e5 : decide ((2 : Int) < qq) = false := decide_eq_false (by omega)
                      by_cases htt : t.size ≤ 200
                      · have e6 : decide ((200 : Int) < (t.size : Int)) = false := decide_eq_false (by omega)
                        have e6' : decide (200 < t.size) = false := decide_eq_false (by omega)
                        go_wp2
                        go_roundg (an - (j+1))
                        case measure => have := HQ2.out; omega
                        case rel =>
                          refine ⟨j + 1, by omega, ⟨rfl⟩, by go_num, ⟨fun i hi => ?_⟩, ⟨HB2.out.alloc HB2.out.size _⟩⟩
                          by_cases hij : i < j
                          · exact HSH.out i hij
                          · obtain rfl : i = j := by omega
                            exact ⟨b2, o2, t, rfl, hb2, HG0.out, htt⟩
                      · have e6 : decide ((200 : Int) < (t.size : Int)) = true := decide_eq_true (by omega)
                        have e6' : decide (200 < t.size) = true := decide_eq_true (by omega)
                        go_wp2
                        go_ret
                        exact ⟨.inl rfl, HB2.out.alloc HB2.out.size _⟩
                    · have e5 : decide ((2 : Int) < qq) = true := decide_eq_true (by omega)
                      go_wp2
                      go_ret
                      exact ⟨.inl rfl, HB2.out.alloc HB2.out.size _⟩
                  · have hjn : j = an := by omega
                    subst hjn
                    go_wp2
                    go_roundg (n - (k+1))
                    case measure => have := HQ.out; omega
                    case rel =>
                      refine ⟨k + 1, by omega, ⟨rfl⟩, by go_num, ⟨fun i hi => ?_⟩, HB2⟩
                      by_cases hik : i < k
                      · exact HG.out i hik
                      · obtain rfl : i = k := by omega
                        rw [HMM.out]
                        exact ⟨HGM.out, HSH.out⟩
              · have e4 : decide ((20 : Int) < (an : Int)) = true := decide_eq_true (by omega)
                have e4' : decide (20 < an) = true := decide_eq_true (by omega)
                go_wp2
                go_ret
                exact ⟨.inl rfl, HB.out.alloc HB.out.size _⟩
            · have e3 : decide ((200 : Int) < (name.size : Int)) = true := decide_eq_true (by omega)
              have e3' : decide (200 < name.size) = true := decide_eq_true (by omega)
              go_wp2
              go_ret
              exact ⟨.inl rfl, HB.out.alloc HB.out.size _⟩
          · have e2 : decide ((1 : Int) < f) = true := decide_eq_true (by omega)
            go_wp2
            go_ret
            exact ⟨.inl rfl, HB.out.alloc HB.out.size _⟩
        · have e1 : decide ((2 : Int) < kk) = true := decide_eq_true (by omega)
          go_wp2
          go_ret
          exact ⟨.inl rfl, HB.out.alloc HB.out.size _⟩
      · have hkn : k = n := by omega
        subst hkn
        go_wp2
        go_ret
        exact ⟨.inr ⟨rfl, by rw [HN.out]; exact hb, fun i hi => HG.out i (by rw [← HN.out]; exact hi)⟩, HB.out⟩
  · have d1 : decide ((8 : Int) < (n : Int)) = true := decide_eq_true (by omega)
    have d2 : decide (8 < n) = true := decide_eq_true (by omega)
    go_enter Tryz.func9, Tryz.ntmps9
    go_wp2
    go_ret
    exact ⟨.inl rfl, Below.refl _ _⟩
end Go.Proofs.YtkmdjpinpjcndaaGreatDoor

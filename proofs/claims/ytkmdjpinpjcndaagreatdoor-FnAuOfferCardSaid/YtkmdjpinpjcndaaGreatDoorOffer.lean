/-
  The walk of the statement on offers.
-/
import Derived.Test.YtkmdjpinpjcndaaGreatDoorStrs
import Derived.Test.YtkmdjpinpjcndaaGreatDoorOne
namespace Go.Proofs.YtkmdjpinpjcndaaGreatDoor
open Go.RowKit Go.Proofs.YtkmdjpinpjcndaaGreatDoorW.PrintWords
variable {P D : Nat → Prop} {w w1 w2 : World}

/-- An offered name that the statement speaks of. -/
def NameOk (s : ByteArray) : Prop := 0 < s.size ∧ s.size ≤ 50 ∧ (32 : UInt8) ∉ s.data.toList ∧ (13 : UInt8) ∉ s.data.toList ∧ (10 : UInt8) ∉ s.data.toList
def bytesAll (ss : List ByteArray) : List (List UInt8) := ss.map (·.data.toList)
theorem bytesAll_take (ss : List ByteArray) (k : Nat) (hk : k < ss.length) : bytesAll (ss.take (k + 1)) = bytesAll (ss.take k) ++ [(sAt ss k).data.toList] := by
  rw [sAt_eq ss k hk, take_snoc' ss k hk]; simp only [bytesAll, List.map_append, List.map_cons, List.map_nil]
theorem jTo_sp (ss : List ByteArray) : ∀ k, k ≤ ss.length → (jTo ⟨#[32]⟩ ss k).data.toList = sp (bytesAll (ss.take k))
  | 0, _ => by simp [jTo, bytesAll, sp]
  | k + 1, h => by
    have ih := jTo_sp ss k (by omega)
    rw [bytesAll_take ss k (by omega)]
    by_cases h0 : k = 0
    · subst h0
      rw [jTo_first _ _ _ rfl, ByteArray.data_append, Array.toList_append, ih]
      simp [bytesAll, sp]
    · rw [jTo_next _ _ _ h0, sp_snoc' _ _ (by intro e; have := congrArg List.length e; simp [bytesAll] at this; rcases this with h1 | h1; exact h0 h1; subst h1; simp at h), ByteArray.data_append, ByteArray.data_append, Array.toList_append, Array.toList_append, ih]
theorem mem_sp : ∀ (ws : List (List UInt8)) (y : UInt8), y ∈ sp ws → y = 32 ∨ ∃ x ∈ ws, y ∈ x
  | [], y, h => by simp [sp] at h
  | [a], y, h => .inr ⟨a, by simp, h⟩
  | a :: b :: r, y, h => by
    rw [sp] at h
    rcases List.mem_append.1 h with h | h
    · exact .inr ⟨a, by simp, h⟩
    · rcases List.mem_cons.1 h with h | h
      · exact .inl h
      · rcases mem_sp (b :: r) y h with h | ⟨x, hx, h⟩
        · exact .inl h
        · exact .inr ⟨x, by simp at hx ⊢; exact .inr hx, h⟩
def helloOf (ss : List ByteArray) (n : Nat) : ByteArray := ⟨#[82, 69, 74, 69, 67, 84, 69, 68, 32]⟩ ++ jTo ⟨#[32]⟩ ss n ++ ⟨#[13, 10]⟩
def rejLine : ByteArray := ⟨#[82, 69, 74, 69, 67, 84, 69, 68, 13, 10]⟩
theorem rej_line : LineOf rejLine [nRej] := ⟨by decide, by decide, by decide, by decide, by decide⟩
theorem hello_of (ss : List ByteArray) (n : Nat) (hn : ss.length = n) (h0 : 0 < n) (h20 : n ≤ 20) (hok : ∀ j, j < n → NameOk (sAt ss j)) (hm : ∀ j, (sAt ss j).size ≤ 50) : LineOf (helloOf ss n) (nRej :: bytesAll ss) := by
  have hj := jTo_sp ss n (by omega)
  rw [← hn, List.take_length, hn] at hj
  have hsz := jTo_size ⟨#[32]⟩ ss 50 hm n
  have h51 : (⟨#[32]⟩ : ByteArray).size + 50 = 51 := rfl
  rw [h51] at hsz
  have hmem : ∀ x ∈ bytesAll ss, ∃ j, j < n ∧ x = (sAt ss j).data.toList := fun x hx => by
    obtain ⟨s, hs, rfl⟩ := List.mem_map.1 hx
    obtain ⟨j, hj, rfl⟩ := List.getElem_of_mem hs
    exact ⟨j, by omega, by rw [sAt_eq ss j hj]⟩
  obtain ⟨a, r, hne⟩ : ∃ a r, bytesAll ss = a :: r := by
    rcases ss with _ | ⟨s, r⟩
    · simp at hn; omega
    · exact ⟨_, _, rfl⟩
  refine ⟨?_, by simp, ?_, ?_, ?_⟩
  · rw [hne, sp, ← hne, helloOf, ByteArray.data_append, ByteArray.data_append, Array.toList_append, Array.toList_append, hj]
    simp [nRej]
  · rw [helloOf, ByteArray.size_append, ByteArray.size_append]
    have e1 : (⟨#[82, 69, 74, 69, 67, 84, 69, 68, 32]⟩ : ByteArray).size = 9 := rfl
    have e2 : (⟨#[13, 10]⟩ : ByteArray).size = 2 := rfl
    rw [e1, e2]
    have : n * 51 ≤ 20 * 51 := Nat.mul_le_mul_right _ h20
    omega
  · intro h
    rcases mem_sp _ _ h with h | ⟨x, hx, h⟩
    · exact absurd h (by decide)
    · rcases List.mem_cons.1 hx with rfl | hx
      · exact absurd h (by decide)
      · obtain ⟨j, hj, rfl⟩ := hmem x hx
        exact (hok j hj).2.2.2.2 h
  · intro x hx
    rcases List.mem_cons.1 hx with rfl | hx
    · decide
    · obtain ⟨j, hj, rfl⟩ := hmem x hx
      exact (hok j hj).2.2.1

theorem ReadsF.below {A : Option Addr} {ml : List M4} (h : ReadsF w A ml) (hb : Below w.heap.size w w1) : ReadsF w1 A ml := by
  have hf : Fix (fun k => k < w.heap.size) w w1 := Fix.ofBelow hb fun k hk => hk
  exact ⟨h.1, (h.2.1.fix hf).mono fun k hk => Nat.lt_of_lt_of_le hk hb.size, fun i hi => ⟨((h.2.2 i hi).1.fix hf).mono fun k hk => Nat.lt_of_lt_of_le hk hb.size, (h.2.2 i hi).2⟩⟩
def GoodAll (w : World) (ml : List M4) : Prop := ∀ i, i < ml.length → Good (mAt ml i) ∧ Short (fun k => k < w.heap.size) w (mAt ml i).aa (mAt ml i).an
theorem GoodAll.below {ml : List M4} (h : GoodAll w ml) (hb : Below w.heap.size w w1) : GoodAll w1 ml := fun i hi => ⟨(h i hi).1, fun j hj => by
  obtain ⟨b, o, t, e, hD, hc, hs⟩ := (h i hi).2 j hj
  exact ⟨b, o, t, e, Nat.lt_of_lt_of_le hD hb.size, (hb.cell (p := ⟨b, o + j * 2, none⟩) hD).trans hc, hs⟩⟩

/-- What is gathered: the bytes that a run should send, and the peer's replies. -/
structure Acc (w3 w' : World) (v10 : Value) (s hello : ByteArray) (t : List (List UInt8)) (vs : List Value) : Prop where
  text : s.data.toList = [0] ++ (nAuth ++ [13, 10]) ++ t.flatMap authLine
  vals : vs = .string hello :: List.replicate t.length (.string rejLine)
  row : w'.ownsRow w3.heap.size 9 1 v10 vs.length vs
  below : Below w3.heap.size w3 w'
theorem Acc.size {w3 w' : World} {v10 : Value} {s hello : ByteArray} {t : List (List UInt8)} {vs : List Value} (h : Acc w3 w' v10 s hello t vs) (ht : ∀ y ∈ t, y.length ≤ 4096) (hN : t.length ≤ 1000) : s.size ≤ 6000000 := by
  rw [← data_length, h.text]
  have := lines_len t ht
  have h2 : t.length * 5000 ≤ 1000 * 5000 := Nat.mul_le_mul_right _ hN
  simp only [List.length_append, nAuth, List.length_cons, List.length_nil] at this ⊢
  omega
theorem tried_count (ns ms : List (List UInt8)) : (triedAll ns ms).length ≤ ns.length * ms.length := by
  unfold triedAll
  induction ns with
  | nil => simp
  | cons a r ih =>
    rw [List.flatMap_cons, List.length_append, List.length_cons, Nat.add_mul]
    have := List.length_filter_le (· == a) ms
    omega

set_option maxRecDepth 100000 in
set_option maxHeartbeats 8000000 in
theorem Offer_calls (B : Option Addr) (nB cB : Nat) (ss : List ByteArray) (A : Option Addr) (n cA : Nat) (ml : List M4) (fds : Bool) (w : World)
    (hB : ReadsS (fun k => k < w.heap.size) w B ss) (hnB : ss.length = nB) (hnB2 : nB ≤ 9223372036854775807) (hA : ReadsF w A ml) (hn : ml.length = n) (h0f : ∀ i, i < ml.length → 0 ≤ (mAt ml i).k ∧ 0 ≤ (mAt ml i).f) :
    Calls Tryz.prog 3 #[.slice B nB cB, .slice A n cA, .bool fds] w fun e w' => e = .returned (.bool true) ∧ Below w.heap.size w w' := by
  have HB := Aside0.mk hB
  have HNB := Aside0.mk hnB
  have HA := Aside0.mk hA
  have HN := Aside0.mk hn
  have H0F := Aside0.mk h0f
  have HF5 := Aside0.mk (fits5_calls B nB cB ss w hB hnB hnB2)
  have HF1 := Aside0.mk (fits1 A n cA ml w hA hn)
  clear hB hnB hA hn h0f
  by_cases h0 : nB = 0
  · subst h0
    go_enter Tryz.func3, Tryz.ntmps3
    go_wp2_with (first
    | (go_at_call 7; refine HF5.out.mono ?_; rintro e _ ⟨⟨⟨r, rfl⟩⟩, rfl⟩; cases r)
    | (go_at_call 8; refine HF1.out.mono ?_; rintro e w1 ⟨⟨⟨r, rfl⟩⟩, hb⟩; have HB1 := Aside0.mk hb; clear hb; cases r))
    all_goals first
      | (go_ret; exact ⟨rfl, Below.refl _ _⟩)
      | (go_ret; exact ⟨rfl, HB1.out⟩)
  have hz1 : ((nB : Int) == 0) = false := by rw [beq_eq_false_iff_ne]; omega
  have H0 := Aside0.mk h0
  clear h0
  by_cases h20 : nB ≤ 20
  case neg =>
    have d1 : decide ((20 : Int) < (nB : Int)) = true := decide_eq_true (by omega)
    have d2 : decide (20 < nB) = true := decide_eq_true (by omega)
    go_enter Tryz.func3, Tryz.ntmps3
    go_wp2_with (first
    | (go_at_call 7; refine HF5.out.mono ?_; rintro e _ ⟨⟨⟨r, rfl⟩⟩, rfl⟩; cases r)
    | (go_at_call 8; refine HF1.out.mono ?_; rintro e w1 ⟨⟨⟨r, rfl⟩⟩, hb⟩; have HB1 := Aside0.mk hb; clear hb; cases r))
    all_goals first
      | (go_ret; exact ⟨rfl, Below.refl _ _⟩)
      | (go_ret; exact ⟨rfl, HB1.out⟩)
  have d1 : decide ((20 : Int) < (nB : Int)) = false := decide_eq_false (by omega)
  have d2 : decide (20 < nB) = false := decide_eq_false (by omega)
  go_enter Tryz.func3, Tryz.ntmps3
  go_wp2_with (first
    | (go_at_call 7; refine HF5.out.mono ?_; rintro e _ ⟨⟨⟨r, rfl⟩⟩, rfl⟩; cases r)
    | (go_at_call 8; refine HF1.out.mono ?_; rintro e w1 ⟨⟨⟨r, rfl⟩⟩, hb⟩; have HB1 := Aside0.mk hb; clear hb; cases r))
  all_goals first
    | (go_ret; exact ⟨rfl, Below.refl _ _⟩)
    | (go_ret; exact ⟨rfl, HB1.out⟩)
    | skip
  refine (good_calls A n cA ml _ (HA.out.below HB1.out) HN.out H0F.out).mono ?_
  rintro e w2 ⟨he, hb⟩
  have HB2 := Aside0.mk (HB1.out.trans (hb.mono HB1.out.size))
  have HBB := Aside0.mk hb
  clear hb
  rcases he with rfl | ⟨rfl, h8, hgood⟩
  · go_wp2
    go_ret
    exact ⟨rfl, HB2.out⟩
  have HGD := Aside0.mk (GoodAll.below hgood HBB.out)
  have H8 := Aside0.mk h8
  clear hgood h8
  go_wp2_with (go_at_call 10; fail)
  refine (plain_calls A n cA ml _ (HA.out.below HB2.out) HN.out (by rw [← HN.out]; exact H8.out) HGD.out).mono ?_
  rintro e w3 ⟨⟨⟨r, rfl⟩⟩, hb⟩
  have HB3 := Aside0.mk (HB2.out.trans (hb.mono HB2.out.size))
  clear hb
  cases r
  · go_wp2
    go_ret
    exact ⟨rfl, HB3.out⟩
  go_wp2
  have HLT3 := Aside0.mk (HB3.out.size)
  have HBS := Aside0.mk (HB.out.fix (Fix.ofBelow HB3.out fun k hk => hk))
  go_loopg [48] nB (fun q v48 w' => ∃ k : Nat, k ≤ nB ∧ Aside0 (q = nB - k) ∧ v48 = .int .i64 k ∧ w3 = w' ∧ Aside0 (∀ j, j < k → NameOk (sAt ss j)))
  case atStart => exact ⟨0, by omega, ⟨by omega⟩, rfl, rfl, ⟨fun j hj => by omega⟩⟩
  case round =>
    obtain ⟨k, hk, HQ, rfl, rfl, HOK⟩ := hrel
    by_cases hlt : k < nB
    · obtain ⟨b, o, rfl, _, hcell⟩ := HBS.out k (by rw [HNB.out]; exact hlt)
      by_cases h50 : (sAt ss k).size ≤ 50
      case neg =>
        have f1 : decide ((50 : Int) < ((sAt ss k).size : Int)) = true := decide_eq_true (by omega)
        have f2 : decide (50 < (sAt ss k).size) = true := decide_eq_true (by omega)
        go_wp2
        go_ret
        exact ⟨rfl, HB3.out⟩
      have f1 : decide ((50 : Int) < ((sAt ss k).size : Int)) = false := decide_eq_false (by omega)
      have f2 : decide (50 < (sAt ss k).size) = false := decide_eq_false (by omega)
      by_cases hse : 0 < (sAt ss k).size
      case neg =>
        have f3 : (sAt ss k).toList.isEmpty = true := by
          rw [List.isEmpty_iff, ← List.length_eq_zero_iff, Lib.toList_data, data_length]; omega
        go_wp2
        go_ret
        exact ⟨rfl, HB3.out⟩
      have f3 : (sAt ss k).toList.isEmpty = false := by
        rw [List.isEmpty_eq_false_iff, ← List.length_pos_iff, Lib.toList_data, data_length]; exact hse
      go_wp2
      go_loopg [9] (sAt ss k).size (fun q v9 w' => ∃ i : Nat, i ≤ (sAt ss k).size ∧ Aside0 (q = (sAt ss k).size - i) ∧ v9 = .int .i64 i ∧ w3 = w' ∧ Aside0 (∀ (j : Nat) (h : j < (sAt ss k).size), j < i → (sAt ss k)[j] ≠ 32 ∧ (sAt ss k)[j] ≠ 13 ∧ (sAt ss k)[j] ≠ 10))
      case atStart => exact ⟨0, by omega, ⟨by omega⟩, rfl, rfl, ⟨fun j _ hj => by omega⟩⟩
      case round =>
        obtain ⟨i, hi, HQ2, rfl, rfl, HBY⟩ := hrel
        by_cases hlt2 : i < (sAt ss k).size
        · by_cases e1 : (((sAt ss k)[i]'hlt2).toNat : Int) = 32
          · have g1 : ((((sAt ss k)[i]'hlt2).toNat : Int) == 32) = true := by rw [beq_iff_eq]; exact e1
            clear e1
            go_wp2
            go_ret
            exact ⟨rfl, HB3.out⟩
          · by_cases e2 : (((sAt ss k)[i]'hlt2).toNat : Int) = 13
            · have g1 : ((((sAt ss k)[i]'hlt2).toNat : Int) == 32) = false := by rw [beq_eq_false_iff_ne]; exact e1
              have g2 : ((((sAt ss k)[i]'hlt2).toNat : Int) == 13) = true := by rw [beq_iff_eq]; exact e2
              clear e1 e2
              go_wp2
              go_ret
              exact ⟨rfl, HB3.out⟩
            · by_cases e3 : (((sAt ss k)[i]'hlt2).toNat : Int) = 10
              · have g1 : ((((sAt ss k)[i]'hlt2).toNat : Int) == 32) = false := by rw [beq_eq_false_iff_ne]; exact e1
                have g2 : ((((sAt ss k)[i]'hlt2).toNat : Int) == 13) = false := by rw [beq_eq_false_iff_ne]; exact e2
                have g3 : ((((sAt ss k)[i]'hlt2).toNat : Int) == 10) = true := by rw [beq_iff_eq]; exact e3
                clear e1 e2 e3
                go_wp2
                go_ret
                exact ⟨rfl, HB3.out⟩
              · have g1 : ((((sAt ss k)[i]'hlt2).toNat : Int) == 32) = false := by rw [beq_eq_false_iff_ne]; exact e1
                have g2 : ((((sAt ss k)[i]'hlt2).toNat : Int) == 13) = false := by rw [beq_eq_false_iff_ne]; exact e2
                have g3 : ((((sAt ss k)[i]'hlt2).toNat : Int) == 10) = false := by rw [beq_eq_false_iff_ne]; exact e3
                have HE := Aside0.mk (show (sAt ss k)[i] ≠ 32 ∧ (sAt ss k)[i] ≠ 13 ∧ (sAt ss k)[i] ≠ 10 from ⟨fun e => e1 (by rw [e]; rfl), fun e => e2 (by rw [e]; rfl), fun e => e3 (by rw [e]; rfl)⟩)
                clear e1 e2 e3
                go_wp2
                go_roundg ((sAt ss k).size - (i+1))
                case measure => have := HQ2.out; omega
                case rel =>
                  refine ⟨i + 1, by omega, ⟨rfl⟩, by go_num, rfl, ⟨fun j h hj => ?_⟩⟩
                  by_cases hji : j < i
                  · exact HBY.out j h hji
                  · obtain rfl : j = i := by omega
                    exact HE.out
        · have hin : i = (sAt ss k).size := by omega
          have HNO := Aside0.mk (show NameOk (sAt ss k) from by
            have hall : ∀ y ∈ (sAt ss k).data.toList, y ≠ 32 ∧ y ≠ 13 ∧ y ≠ 10 := fun y hy => by
              obtain ⟨j, hj, rfl⟩ := List.getElem_of_mem hy
              rw [data_length] at hj
              exact HBY.out j hj (by omega)
            exact ⟨hse, h50, fun h => (hall _ h).1 rfl, fun h => (hall _ h).2.1 rfl, fun h => (hall _ h).2.2 rfl⟩)
          subst hin
          go_wp2
          go_roundg (nB - (k+1))
          case measure => have := HQ.out; omega
          case rel =>
            refine ⟨k + 1, by omega, ⟨rfl⟩, by go_num, rfl, ⟨fun j hj => ?_⟩⟩
            by_cases hjk : j < k
            · exact HOK.out j hjk
            · obtain rfl : j = k := by omega
              exact HNO.out
    · have hkn : k = nB := by omega
      subst hkn
      have hsm : ∀ j, (sAt ss j).size ≤ 50 := fun j => by
        by_cases hj : j < k
        · exact (HOK.out j hj).2.1
        · have e : sAt ss j = ByteArray.empty := by
            unfold sAt
            rw [List.getD_eq_getElem?_getD, List.getElem?_eq_none (by rw [HNB.out]; omega)]
            rfl
          rw [e]
          exact Nat.zero_le _
      have HSM := Aside0.mk hsm
      have HJS := Aside0.mk (show (jTo ⟨#[32]⟩ ss k).size ≤ 1020 by
        have h1 := jTo_size ⟨#[32]⟩ ss 50 hsm k
        have h2 : (⟨#[32]⟩ : ByteArray).size + 50 = 51 := rfl
        rw [h2] at h1
        have := Nat.mul_le_mul_right 51 h20
        omega)
      have HJ := Aside0.mk (Joined_calls B k cB ss ⟨#[32]⟩ 50 w3 HBS.out HNB.out hnB2 hsm (by have h2 : (⟨#[32]⟩ : ByteArray).size + 50 = 51 := rfl; rw [h2]; omega))
      have HHL := Aside0.mk (hello_of ss k HNB.out (by have := H0.out; omega) h20 HOK.out hsm)
      clear hsm hk hlt
      have hh0 : ∃ jj, Aside0 (jTo ⟨#[32]⟩ ss k = jj) := ⟨_, ⟨rfl⟩⟩
      obtain ⟨jj, HJJ⟩ := hh0
      unfold helloOf at HHL
      rw [HJJ.out] at HJ HHL HJS
      have hjb : jj.size ≤ 1020 := HJS.out
      have q1t := eq_true (show 9 + jj.size ≤ 9223372036854775807 by omega)
      have q1f := eq_false (show ¬ 9223372036854775807 < 9 + jj.size by omega)
      have q2t := eq_true (show 9 + jj.size + 2 ≤ 9223372036854775807 by omega)
      have q2f := eq_false (show ¬ 9223372036854775807 < 9 + jj.size + 2 by omega)
      clear hjb
      go_wp2_with (go_at_call 11; refine HJ.out.mono ?_; rintro e _ ⟨rfl, rfl⟩)
      generalize (⟨#[82, 69, 74, 69, 67, 84, 69, 68, 32]⟩ ++ jj ++ ⟨#[13, 10]⟩ : ByteArray) = hello at HHL ⊢
      clear q1t q1f q2t q2f HJS HJ HJJ
      have HNS := Aside0.mk (show (bytesAll ss).length = k by simp [bytesAll, HNB.out])
      have HMS := Aside0.mk (show (ml.map mName).length = n by simp [HN.out])
      have HTC := Aside0.mk (show (triedAll (bytesAll ss) (ml.map mName)).length ≤ 160 by
        have h1 := tried_count (bytesAll ss) (ml.map mName)
        rw [HNS.out, HMS.out] at h1
        have h2 : k * n ≤ 20 * 8 := Nat.mul_le_mul h20 (by rw [← HN.out]; exact H8.out)
        omega)
      have HNA := Aside0.mk (show ∀ j, j < k → nAt (bytesAll ss) j = (sAt ss j).data.toList from fun j hj => by
        rw [nAt_eq _ _ (by rw [HNS.out]; exact hj)]
        simp [bytesAll, sAt_eq ss j (by rw [HNB.out]; exact hj)])
      have HA3 := Aside0.mk (HA.out.below HB3.out)
      go_loopg [10, 11, 89] k (fun q v10 v11 v89 w' => ∃ (j : Nat) (s : ByteArray) (vs : List Value), j ≤ k ∧ Aside0 (q = k - j) ∧ v11 = .string s ∧ v89 = .int .i64 j ∧ Aside0 (Acc w3 w' v10 s hello (triedTo (bytesAll ss) (ml.map mName) j 0) vs))
      case atStart =>
        refine ⟨0, _, [.string hello], by omega, ⟨by omega⟩, rfl, rfl, ⟨?_, ?_, ?_, (Below.refl _ _).alloc (Nat.le_refl _) _⟩⟩
        · rw [tried_zero]; rfl
        · rw [tried_zero]; rfl
        · have := World.ownsRow_lit (base := w3.heap.size) (e := 9) (size := 1) w3 #[.string hello] 1 (Nat.le_refl _) (by simp [maxLen]) rfl
          simpa using this
      case round =>
        obtain ⟨j, s, vs, hj, HQ, rfl, rfl, HAC⟩ := hrel
        by_cases hlt : j < k
        · obtain ⟨b, o, rfl, _, hcell⟩ := (HBS.out.fix (Fix.ofBelow HAC.out.below fun k hk => Nat.lt_of_lt_of_le hk HLT3.out)) j (by rw [HNB.out]; exact hlt)
          go_wp2
          go_loopg [10, 11, 95] n (fun q v10 v11 v95 w' => ∃ (i : Nat) (s : ByteArray) (vs : List Value), i ≤ n ∧ Aside0 (q = n - i) ∧ v11 = .string s ∧ v95 = .int .i64 i ∧ Aside0 (Acc w3 w' v10 s hello (triedTo (bytesAll ss) (ml.map mName) j i) vs))
          case atStart => exact ⟨0, s, vs, by omega, ⟨by omega⟩, rfl, rfl, HAC⟩
          case round =>
            obtain ⟨i, s, vs, hi, HQ2, rfl, rfl, HAC⟩ := hrel
            by_cases hlt2 : i < n
            · have hil : i < ml.length := by rw [HN.out]; exact hlt2
              obtain ⟨b2, o2, rfl, _, h0, h1, h2, h3⟩ := (HA3.out.below HAC.out.below).2.1 i hil
              have HGI := Aside0.mk (HGD.out i hil).1
              have HNM := Aside0.mk (show nAt (ml.map mName) i = mName (mAt ml i) by rw [nAt_eq _ _ (by rw [HMS.out]; exact hlt2), List.getElem_map, mAt_eq ml i hil])
              generalize mAt ml i = m at h0 h1 h2 h3 HGI HNM
              obtain ⟨kk, name, f, aa, an, ac⟩ := m
              simp only at h0 h1 h2 h3
              go_wp2_with (go_at_call 12; refine (name_calls kk f name aa an ac _ HGI.out.1).mono ?_)
              rintro e w5 ⟨rfl, hb5⟩
              have HB5 := Aside0.mk hb5
              clear hb5
              generalize hnn : (⟨(mName ⟨kk, name, f, aa, an, ac⟩).toArray⟩ : ByteArray) = nm
              have HNN := Aside0.mk hnn
              clear hnn
              have hi8 : (i : Int) ≤ 8 := by have h1 := H8.out; have h2 := HN.out; omega
              have HBW := Aside0.mk (show Below wr.heap.size wr w5 from ((Below.refl wr.heap.size wr).alloc (Nat.le_refl _) _).trans (HB5.out.mono (by simp)))
              have HB35 := Aside0.mk (show Below w3.heap.size w3 w5 from HAC.out.below.trans (HBW.out.mono HAC.out.below.size))
              have HO5 := Aside0.mk (pw_own_below HAC.out.row HBW.out)
              have hnl : nm.toList = nAt (ml.map mName) i := by
                rw [HNM.out, ← HNN.out, Lib.toList_data]
              have hsl : (sAt ss j).toList = nAt (bytesAll ss) j := by rw [HNA.out j hlt, Lib.toList_data]
              by_cases hh : nAt (bytesAll ss) j = nAt (ml.map mName) i
              · have htb : (nm.toList == (sAt ss j).toList) = true := by rw [hnl, hsl, hh, beq_self_eq_true]
                have HTH := Aside0.mk (tried_hit (bytesAll ss) (ml.map mName) j i (by rw [HMS.out]; exact hlt2) hh)
                have HTL := Aside0.mk (show (triedTo (bytesAll ss) (ml.map mName) j i).length ≤ 160 from Nat.le_trans (tried_le _ _ j i (by rw [HNS.out]; exact hlt)) HTC.out)
                have hss := HAC.out.size (fun y hy => by
                  have hy' := tried_sub _ _ j i (by rw [HNS.out]; exact hlt) y hy
                  obtain ⟨s', hs', rfl⟩ := List.mem_map.1 hy'
                  obtain ⟨j', hj', rfl⟩ := List.getElem_of_mem hs'
                  have := HSM.out j'
                  rw [sAt_eq ss j' hj'] at this
                  rw [data_length]
                  omega) (by have := HTL.out; omega)
                have hsj := HSM.out j
                have p1t := eq_true (show 5 + (sAt ss j).size ≤ 9223372036854775807 by omega)
                have p1f := eq_false (show ¬ 9223372036854775807 < 5 + (sAt ss j).size by omega)
                have p2t := eq_true (show 5 + (sAt ss j).size + 2 ≤ 9223372036854775807 by omega)
                have p2f := eq_false (show ¬ 9223372036854775807 < 5 + (sAt ss j).size + 2 by omega)
                have p3t := eq_true (show s.size + (5 + (sAt ss j).size + 2) ≤ 9223372036854775807 by omega)
                have p3f := eq_false (show ¬ 9223372036854775807 < s.size + (5 + (sAt ss j).size + 2) by omega)
                have HVL := Aside0.mk (show vs.length ≤ 200 by rw [HAC.out.vals]; have := HTL.out; simp; omega)
                have HSL := Aside0.mk hsl
                clear hss hsj hnl hsl hh
                go_wp2_with ((with_reducible refine gate_builtin (b := .append) (xs := #[.tmp 108, .tmp 109]) rfl ?_); at_builtin; refine print_append (w0 := w3) (W := w5) w3.heap.size rfl (.tmp 108) (.tmp 109) 22 9 (.string ⟨#[]⟩) 16 rfl Tryz.underlying22 info9 rfl (by decide) u10 vs _ rfl rfl rfl HO5.out HB35.out ?r2 ?r3 ?_; (case r2 => exact HB35.out.size); (case r3 => have := HVL.out; omega); intro v7 w7 ho hb hg hat; have HO7 := Aside0.mk ho; have HB7 := Aside0.mk hb; clear ho hb hg hat)
                go_roundg (n - (i+1))
                case measure => have := HQ2.out; omega
                case rel =>
                  refine ⟨i + 1, _, _, by omega, ⟨rfl⟩, rfl, by go_num, ⟨?_, ?_, HO7.out, HB7.out⟩⟩
                  · rw [HTH.out, List.flatMap_append, List.flatMap_cons, List.flatMap_nil, List.append_nil, ← List.append_assoc, ← HAC.out.text, ByteArray.data_append, Array.toList_append, ByteArray.data_append, Array.toList_append, ByteArray.data_append, Array.toList_append]
                    have e := HSL.out
                    rw [Lib.toList_data] at e
                    rw [e]
                    simp [authLine, sp, nAuth]
                  · rw [HTH.out, HAC.out.vals, List.length_append]
                    simp [List.replicate_succ', rejLine]
              · have htb : (nm.toList == (sAt ss j).toList) = false := by
                  rw [beq_eq_false_iff_ne, hnl, hsl]
                  exact fun e => hh e.symm
                have HTM := Aside0.mk (tried_miss (bytesAll ss) (ml.map mName) j i (by rw [HMS.out]; exact hlt2) hh)
                clear hnl hsl hh
                go_wp2
                go_roundg (n - (i+1))
                case measure => have := HQ2.out; omega
                case rel =>
                  exact ⟨i + 1, s, vs, by omega, ⟨rfl⟩, rfl, by go_num, ⟨by rw [HTM.out]; exact HAC.out.text, by rw [HTM.out]; exact HAC.out.vals, HO5.out, HB35.out⟩⟩
            · have hin : i = n := by omega
              subst hin
              go_wp2
              go_roundg (k - (j+1))
              case measure => have := HQ.out; omega
              case rel =>
                exact ⟨j + 1, s, vs, by omega, ⟨rfl⟩, rfl, by go_num, ⟨by rw [tried_next _ _ j (by rw [HNS.out]; exact hlt), HMS.out]; exact HAC.out⟩⟩
        · have hjn : j = k := by omega
          subst hjn
          obtain ⟨A2, c2, rfl⟩ := own_slice HAC.out.row
          have htall : triedTo (bytesAll ss) (ml.map mName) j 0 = triedAll (bytesAll ss) (ml.map mName) := tried_all _ _ j (by rw [HNS.out]; omega)
          have hac := HAC.out
          rw [htall] at hac
          have HS := Aside0.mk (show s = ⟨([0] ++ (nAuth ++ [13, 10]) ++ (triedAll (bytesAll ss) (ml.map mName)).flatMap authLine).toArray⟩ from by
            apply ByteArray.ext
            apply Array.ext'
            rw [hac.text])
          have hvl : vs.length = (triedAll (bytesAll ss) (ml.map mName)).length + 1 := by rw [hac.vals]; simp
          have hAR := HA3.out.below hac.below
          have HRUN := Aside0.mk (AuRun_calls (w := wr) false [] A A2 n cA vs.length c2 (bytesAll ss) ml hello (List.replicate (triedAll (bytesAll ss) (ml.map mName)).length rejLine) fds HHL.out (by rw [HNS.out]; have := H0.out; omega) HN.out hAR.2.1 (by rw [← HN.out]; exact H8.out)
            (fun i hi => by
              have hi' : i < vs.length := by rw [hvl]; simpa using hi
              obtain ⟨g, cap, he, _, hlt⟩ := hac.row.form (by rw [hvl]; omega)
              injection he with he
              subst he
              refine ⟨g, 0, rfl, hlt, ?_⟩
              have hcl := hac.row.cells (g := g) rfl i vs[i] (List.getElem?_eq_getElem hi')
              rw [add_at] at hcl
              rw [hcl]
              have hv : vs = (hello :: List.replicate (triedAll (bytesAll ss) (ml.map mName)).length rejLine).map Value.string := by rw [hac.vals]; simp
              rw [sAt_eq _ i hi]
              simp only [hv, List.getElem_map])
            (by rw [hvl]; simp) (fun m hm => by
              obtain ⟨i, hi, rfl⟩ := List.getElem_of_mem hm
              have hg := (HGD.out i hi).1
              rw [mAt_eq ml i hi] at hg
              exact ⟨hg.1, hg.2.1, by have := hg.2.2.1; omega, fun h => by cases h⟩)
            (.inr ⟨rfl, by simp, fun s hs => by rw [List.eq_of_mem_replicate hs]; exact rej_line⟩) (fun h => by cases h) (fun h => by cases h) (by have := HTC.out; omega))
          have HBL := Aside0.mk (HB3.out.trans (hac.below.mono HLT3.out))
          clear htall hac hvl hAR
          go_wp2_with (go_at_call 13; refine HRUN.out.mono ?_)
          rintro e w6 ⟨hr, hb⟩
          have HB6 := Aside0.mk (HBL.out.trans (hb.mono HBL.out.size))
          have HBX := Aside0.mk hb
          clear hb
          rcases hr with ⟨_, rfl⟩ | ⟨h, _⟩
          · rw [← HS.out]
            go_wp2_with (go_at_call 14; refine (One_calls _).mono ?_)
            rintro e w7 ⟨rfl, hb⟩
            have HB7 := Aside0.mk (HB6.out.trans (hb.mono HB6.out.size))
            clear hb
            go_wp2
            go_ret
            exact ⟨rfl, HB7.out⟩
          · cases h
end Go.Proofs.YtkmdjpinpjcndaaGreatDoor

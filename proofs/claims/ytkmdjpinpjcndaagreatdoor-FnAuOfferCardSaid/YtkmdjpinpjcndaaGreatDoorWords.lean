/-
  The words of a line.
-/
import Derived.Test.YtkmdjpinpjcndaaGreatDoorLines
namespace Go.Proofs.YtkmdjpinpjcndaaGreatDoor
open Go.RowKit Go.Proofs.YtkmdjpinpjcndaaGreatDoorW.PrintWords
variable {P D : Nat → Prop} {w w1 w2 : World}

theorem sp_split : ∀ (ns : List (List UInt8)) (k : Nat) (h : k < ns.length), ∃ rest, sp ns = pre (ns.take k) ++ (ns[k] ++ rest) ∧ (k + 1 < ns.length → ∃ r, rest = 32 :: r) ∧ (¬ k + 1 < ns.length → rest = [])
  | [], k, h => absurd h (Nat.not_lt_zero _)
  | [a], 0, _ => ⟨[], by simp [sp, pre], fun h => by simp at h, fun _ => rfl⟩
  | [a], k + 1, h => by simp at h
  | a :: b :: r, 0, _ => ⟨32 :: sp (b :: r), by simp [sp, pre], fun _ => ⟨_, rfl⟩, fun h => by simp at h⟩
  | a :: b :: r, k + 1, h => by
    obtain ⟨rest, h1, h2, h3⟩ := sp_split (b :: r) k (by simpa using h)
    refine ⟨rest, ?_, fun hk => h2 (by simpa using hk), fun hk => h3 (by simpa using hk)⟩
    rw [sp, h1]
    simp [pre]
/-- Where word k begins. -/
def startOf (ns : List (List UInt8)) (k : Nat) : Nat := (pre (ns.take k)).length
theorem start_zero (ns : List (List UInt8)) : startOf ns 0 = 0 := by simp [startOf, pre]
theorem start_succ (ns : List (List UInt8)) (k : Nat) (h : k < ns.length) : startOf ns (k + 1) = startOf ns k + ns[k].length + 1 := by
  unfold startOf
  rw [take_snoc' ns k h, pre_snoc]
  simp
  omega
theorem word_at (ns : List (List UInt8)) (k : Nat) (h : k < ns.length) (j : Nat) (hj : j < ns[k].length) : (sp ns)[startOf ns k + j]? = some ns[k][j] := by
  obtain ⟨rest, h1, _⟩ := sp_split ns k h
  rw [h1, startOf, List.getElem?_append_right (by omega), Nat.add_sub_cancel_left, List.getElem?_append_left hj]
  simp [hj]
theorem blank_at (ns : List (List UInt8)) (k : Nat) (h : k + 1 < ns.length) : (sp ns)[startOf ns k + (ns[k]'(by omega)).length]? = some 32 := by
  obtain ⟨rest, h1, h2, _⟩ := sp_split ns k (by omega)
  obtain ⟨r, rfl⟩ := h2 h
  rw [h1, startOf, List.getElem?_append_right (by omega), Nat.add_sub_cancel_left, List.getElem?_append_right (by omega)]
  simp
theorem end_of (ns : List (List UInt8)) (k : Nat) (h : k < ns.length) : startOf ns k + ns[k].length ≤ (sp ns).length ∧ (¬ k + 1 < ns.length → (sp ns).length = startOf ns k + ns[k].length) ∧ (k + 1 < ns.length → startOf ns k + ns[k].length < (sp ns).length) := by
  obtain ⟨rest, h1, h2, h3⟩ := sp_split ns k h
  refine ⟨?_, fun hk => ?_, fun hk => ?_⟩
  · rw [h1, startOf]; simp only [List.length_append]; omega
  · rw [h1, startOf, h3 hk]; simp
  · obtain ⟨r, rfl⟩ := h2 hk
    rw [h1, startOf]; simp only [List.length_append, List.length_cons]; omega
theorem word_cut (ns : List (List UInt8)) (k : Nat) (h : k < ns.length) : ((sp ns).take (startOf ns k + ns[k].length)).drop (startOf ns k) = ns[k] := by
  obtain ⟨rest, h1, _⟩ := sp_split ns k h
  rw [h1, startOf, List.take_append, List.drop_append]
  simp
theorem last_cut (ns : List (List UInt8)) (k : Nat) (h : k < ns.length) (hk : ¬ k + 1 < ns.length) : (sp ns).drop (startOf ns k) = ns[k] := by
  obtain ⟨rest, h1, _, h3⟩ := sp_split ns k h
  rw [h1, startOf, h3 hk]
  simp

theorem RB.cut {g o c : Nat} {l : List UInt8} (h : RB D w (some ⟨g, o, none⟩) l) (lo hi : Nat) (h1 : lo ≤ hi) (h2 : hi ≤ l.length) (hc : l.length ≤ c) :
    ∃ A', (∀ W : World, (Instr.slice 35 (.slice (some ⟨g, o, none⟩) l.length c) (some (.int .i64 (lo : Int))) (some (.int .i64 (hi : Int))) none).run Tryz.prog W = .ok (.slice A' (hi - lo) (c - lo)) W) ∧ RB D w A' ((l.take hi).drop lo) := by
  obtain ⟨i, hi0, hz⟩ := Option.map_eq_some_iff.1 info5
  simp only [Prod.mk.injEq] at hz
  refine ⟨_, cut_mid (P := Tryz.prog) 35 5 .i64 .i64 Tryz.underlying35 hi0 1 hz.2.1 (some ⟨g, o, none⟩) l.length c lo hi (by omega) (by omega) (by omega) hc, ?_, fun hp => ?_⟩
  · have := h.small; simp only [List.length_drop, List.length_take]; omega
  · simp only [List.length_drop, List.length_take] at hp
    obtain ⟨b, o1, e, hD, hcell⟩ := h.cells (by omega)
    injection e with e
    injection e with e1 e2
    subst e1 e2
    rw [if_neg (by omega)]
    refine ⟨g, o + lo, by simp [add_at], hD, fun j hj => ?_⟩
    simp only [List.length_drop, List.length_take] at hj
    rw [Nat.add_assoc, hcell (lo + j) (by omega)]
    simp
theorem RB.tail {g o c : Nat} {l : List UInt8} (h : RB D w (some ⟨g, o, none⟩) l) (lo : Nat) (h2 : lo ≤ l.length) (hc : l.length ≤ c) :
    ∃ A', (∀ W : World, (Instr.slice 35 (.slice (some ⟨g, o, none⟩) l.length c) (some (.int .i64 (lo : Int))) none none).run Tryz.prog W = .ok (.slice A' (l.length - lo) (c - lo)) W) ∧ RB D w A' (l.drop lo) := by
  obtain ⟨i, hi0, hz⟩ := Option.map_eq_some_iff.1 info5
  simp only [Prod.mk.injEq] at hz
  obtain ⟨o', hk, ho⟩ := cut_at (Pr := Tryz.prog) 35 5 Tryz.underlying35 hi0 hz.2.1 g o l.length c lo h2
  refine ⟨_, hk, ?_, fun hp => ?_⟩
  · have := h.small; simp only [List.length_drop]; omega
  · simp only [List.length_drop] at hp
    obtain ⟨b, o1, e, hD, hcell⟩ := h.cells (by omega)
    injection e with e
    injection e with e1 e2
    subst e1 e2
    refine ⟨g, o', rfl, hD, fun j hj => ?_⟩
    simp only [List.length_drop] at hj
    rcases ho with rfl | ⟨rfl, rfl⟩
    · rw [Nat.add_assoc, hcell (lo + j) (by omega)]
      simp
    · omega

/-- Values that are slices of bytes. -/
def WordsAt (D : Nat → Prop) (w : World) (vs : List Value) (ns : List (List UInt8)) : Prop :=
  vs.length = ns.length ∧ ∀ (j : Nat) (h : j < ns.length), ∃ A c, vs[j]? = some (.slice A (ns[j]).length c) ∧ RB D w A ns[j]
theorem WordsAt.fix {vs : List Value} {ns : List (List UInt8)} (h : WordsAt D w vs ns) (hf : Fix D w w1) : WordsAt D w1 vs ns :=
  ⟨h.1, fun j hj => by
    obtain ⟨A', c', e, hb'⟩ := h.2 j hj
    exact ⟨A', c', e, hb'.fix hf⟩⟩
theorem WordsAt.snoc {vs : List Value} {ns : List (List UInt8)} {A : Option Addr} {c n : Nat} {l : List UInt8} (h : WordsAt D w vs ns) (hb : RB D w A l) (hn : n = l.length) : WordsAt D w (vs ++ [.slice A n c]) (ns ++ [l]) := by
  subst hn
  refine ⟨by simp [h.1], fun j hj => ?_⟩
  by_cases hlt : j < ns.length
  · obtain ⟨A', c', e, hb'⟩ := h.2 j hlt
    exact ⟨A', c', by rw [List.getElem?_append_left (by rw [h.1]; exact hlt), e, List.getElem_append_left hlt], by rw [List.getElem_append_left hlt]; exact hb'⟩
  · have hj' : j = ns.length := by simp at hj; omega
    subst hj'
    exact ⟨A, c, by rw [List.getElem?_append_right (by rw [h.1]; exact Nat.le_refl _)]; simp [h.1], by simpa using hb⟩

theorem WordsAt.rw {base g n c : Nat} {vs : List Value} {ns : List (List UInt8)} (h : WordsAt D w vs ns) (ho : w.ownsRow base 35 1 (.slice (some ⟨g, 0, none⟩) n c) n vs) : RW (fun k => D k ∨ k = g) w (some ⟨g, 0, none⟩) ns := by
  have hl : ns.length = n := by have := ho.1; rw [h.1] at this; omega
  refine ⟨?_, fun j hj => ?_⟩
  · rcases ho.2 with ⟨h1, _⟩ | ⟨g', cap', cur, he, _, _, h1, h2, _⟩
    · cases h1
    · simp only [maxLen] at h2
      omega
  · obtain ⟨A, c', e, hb⟩ := h.2 j hj
    refine ⟨g, 0, A, c', rfl, .inr rfl, ?_, hb.mono fun k hk => .inl hk⟩
    have := ho.cells (g := g) rfl j _ e
    rwa [add_at] at this
/-- The word at a place. -/
def nAt (ns : List (List UInt8)) (k : Nat) : List UInt8 := ns.getD k []
theorem nAt_eq (ns : List (List UInt8)) (k : Nat) (h : k < ns.length) : nAt ns k = ns[k] := by simp [nAt, List.getD_eq_getElem?_getD, h]

set_option maxRecDepth 100000 in
set_option maxHeartbeats 2000000 in
theorem zzWords_calls (g o n c : Nat) (ns : List (List UInt8)) (hr : RB D w (some ⟨g, o, none⟩) (sp ns)) (hn : n = (sp ns).length) (hne : 0 < ns.length) (hb : ∀ x ∈ ns, (32 : UInt8) ∉ x) (hc : n ≤ c) (hlim : n ≤ 100000) (hD : Lt D w) :
    Calls Tryz.prog 57 #[.slice (some ⟨g, o, none⟩) n c] w fun e w' => ∃ g2 c2, e = .returned (.slice (some ⟨g2, 0, none⟩) ns.length c2) ∧ ns.length ≤ c2 ∧ w.heap.size ≤ g2 ∧ g2 < w'.heap.size ∧ RW (fun k => D k ∨ k = g2) w' (some ⟨g2, 0, none⟩) ns ∧ Below w.heap.size w w' := by
  have HR := Aside0.mk hr
  have HN := Aside0.mk hn
  have HNE := Aside0.mk hne
  have HBL := Aside0.mk hb
  have HC := Aside0.mk hc
  have HLIM := Aside0.mk hlim
  have HD := Aside0.mk hD
  clear hr hn hne hb hc hlim hD
  go_enter Tryz.func57, Tryz.ntmps57
  go_wp2
  go_loopg [3, 4, 9] n (fun q v3 v4 v9 w' => ∃ (i k : Nat) (vs : List Value), i ≤ n ∧ Aside0 (k < ns.length ∧ k ≤ i ∧ startOf ns k ≤ i ∧ i ≤ startOf ns k + (nAt ns k).length) ∧ Aside0 (q = n - i) ∧ v4 = .int .i64 (startOf ns k) ∧ v9 = .int .i64 i ∧ Aside0 (w'.ownsRow w.heap.size 35 1 v3 vs.length vs) ∧ Aside0 (WordsAt D w' vs (ns.take k)) ∧ Aside0 (Below w.heap.size w w'))
  case atStart =>
    exact ⟨0, 0, [], by omega, ⟨HNE.out, Nat.le_refl _, by rw [start_zero]; omega, by omega⟩, ⟨by omega⟩, by rw [start_zero]; rfl, rfl, ⟨own_nil _ _ _ _⟩, ⟨rfl, fun j h => by simp at h⟩, ⟨Below.refl _ _⟩⟩
  case round =>
    obtain ⟨i, k, vs, hi, HK, HQ, rfl, rfl, HO, HW, HB⟩ := hrel
    have HVL := Aside0.mk (show vs.length = k by rw [HW.out.1, List.length_take]; have := HK.out; omega)
    have HNK := Aside0.mk (nAt_eq ns k HK.out.1)
    have HRR := Aside0.mk (HR.out.fix (Fix.ofBelow HB.out HD.out))
    have hin : (i : Int) ≤ 100000 := by have := HLIM.out; omega
    by_cases hlt : i < n
    · have hcell : wr.cell? ⟨g, o + i, none⟩ = some (.int .u8 (((sp ns)[i]'(by rw [← HN.out]; exact hlt)).toNat : Int)) := by
        obtain ⟨b, o1, e, _, hcl⟩ := HRR.out.cells (by rw [← HN.out]; omega)
        injection e with e
        injection e with e1 e2
        subst e1 e2
        exact hcl i _
      by_cases hj : i < startOf ns k + (nAt ns k).length
      · have hne : ((((sp ns)[i]'(by rw [← HN.out]; exact hlt)).toNat : Int) == 32) = false := by
          have h1 := word_at ns k HK.out.1 (i - startOf ns k) (by rw [← HNK.out]; have := HK.out; omega)
          rw [show startOf ns k + (i - startOf ns k) = i by have := HK.out; omega, List.getElem?_eq_getElem (by rw [← HN.out]; exact hlt)] at h1
          have h1 := Option.some.inj h1
          rw [h1, beq_eq_false_iff_ne]
          intro e
          refine HBL.out _ (List.getElem_mem HK.out.1) ?_
          have : (ns[k]'HK.out.1)[i - startOf ns k]'(by rw [← HNK.out]; have := HK.out; omega) = 32 := UInt8.toNat_inj.1 (by show _ = 32; omega)
          rw [← this]
          exact List.getElem_mem _
        generalize hx : (((sp ns)[i]'(by rw [← HN.out]; exact hlt)).toNat : Int) = x at hcell hne
        clear hx
        go_wp2
        go_roundg (n - (i+1))
        case measure => have := HQ.out; omega
        case rel => exact ⟨i + 1, k, vs, by omega, ⟨HK.out.1, by have := HK.out; omega, by have := HK.out; omega, by omega⟩, ⟨rfl⟩, rfl, by go_num, HO, HW, HB⟩
      · have hie : i = startOf ns k + (nAt ns k).length := by have := HK.out; omega
        have hk1 : k + 1 < ns.length := by
          rcases Nat.lt_or_ge (k + 1) ns.length with h | h
          · exact h
          · have := (end_of ns k HK.out.1).2.1 (by omega)
            rw [← HNK.out, ← HN.out] at this
            omega
        have h32 : (((sp ns)[i]'(by rw [← HN.out]; exact hlt)).toNat : Int) = 32 := by
          have h1 := blank_at ns k hk1
          rw [← HNK.out, ← hie, List.getElem?_eq_getElem (by rw [← HN.out]; exact hlt)] at h1
          have h1 := Option.some.inj h1
          rw [h1]; rfl
        rw [h32] at hcell
        clear h32
        obtain ⟨A', kcut, hrb⟩ := HRR.out.cut (c := c) (startOf ns k) i (by omega) (by rw [← HN.out]; omega) (by rw [← HN.out]; exact HC.out)
        rw [← HN.out] at kcut
        have hwc := word_cut ns k HK.out.1
        rw [← HNK.out, ← hie] at hwc
        rw [hwc] at hrb
        have HRB := Aside0.mk hrb
        have HIE := Aside0.mk hie
        have HK1 := Aside0.mk hk1
        clear hrb hwc hie hj hk1
        go_wp2_with (first
          | ((with_reducible refine gate_builtin (b := .append) (xs := #[.tmp 16, .tmp 21]) rfl ?_); at_builtin; refine print_append (w0 := w) (W := wr) w.heap.size rfl (.tmp 16) (.tmp 21) 167 35 (.slice none 0 0) 24 rfl Tryz.underlying167 info35 rfl (by decide) u3 vs _ rfl rfl rfl HO.out HB.out ?r2 ?r3 ?_; (case r2 => exact HB.out.size); (case r3 => have := HVL.out; have := HK.out; have := HLIM.out; omega); intro v1 w1 ho hb hg hat; have HO1 := Aside0.mk ho; have HB1 := Aside0.mk hb; have HG1 := Aside0.mk hg; clear ho hb hg hat))
        go_roundg (n - (i+1))
        case measure => have := HQ.out; omega
        case rel =>
          have hs := start_succ ns k HK.out.1
          rw [← HNK.out, ← HIE.out] at hs
          refine ⟨i + 1, k + 1, _, by omega, ⟨HK1.out, by have := HK.out; omega, by omega, by omega⟩, ⟨rfl⟩, by rw [hs]; go_num, by go_num, HO1, ⟨?_⟩, HB1⟩
          rw [take_snoc' ns k HK.out.1, ← HNK.out]
          have hfx : Fix D wr w1 := Fix.grown (fun k hk => Nat.lt_of_lt_of_le (HD.out k hk) HB.out.size) HG1.out fun k hk h => by have := own_base HO.out k hk; have := HD.out k h; omega
          exact (HW.out.fix hfx).snoc (HRB.out.fix hfx) (by have := HIE.out; omega)
    · have hkn : i = n := by omega
      subst hkn
      have hk1 : ¬ k + 1 < ns.length := fun h => by
        have := (end_of ns k HK.out.1).2.2 h
        rw [← HNK.out, ← HN.out] at this
        have := HK.out
        omega
      obtain ⟨A', kcut, hrb⟩ := HRR.out.tail (c := c) (startOf ns k) (by rw [← HN.out]; have := HK.out; omega) (by rw [← HN.out]; exact HC.out)
      rw [← HN.out] at kcut
      rw [last_cut ns k HK.out.1 hk1, ← HNK.out] at hrb
      have HRB := Aside0.mk hrb
      have HLE := Aside0.mk (show i - startOf ns k = (nAt ns k).length by
        have := (end_of ns k HK.out.1).2.1 hk1
        rw [← HNK.out, ← HN.out] at this
        omega)
      have HK1 := Aside0.mk (show k + 1 = ns.length by have := HK.out; omega)
      clear hrb hk1
      go_wp2_with (first
        | ((with_reducible refine gate_builtin (b := .append) (xs := #[.tmp 26, .tmp 30]) rfl ?_); at_builtin; refine print_append (w0 := w) (W := wr) w.heap.size rfl (.tmp 26) (.tmp 30) 167 35 (.slice none 0 0) 24 rfl Tryz.underlying167 info35 rfl (by decide) u3 vs _ rfl rfl rfl HO.out HB.out ?r2 ?r3 ?_; (case r2 => exact HB.out.size); (case r3 => have := HVL.out; have := HK.out; have := HLIM.out; omega); intro v1 w1 ho hb hg hat; have HO1 := Aside0.mk ho; have HB1 := Aside0.mk hb; have HG1 := Aside0.mk hg; clear ho hb hg hat))
      go_ret
      have hfx : Fix D wr w1 := Fix.grown (fun k hk => Nat.lt_of_lt_of_le (HD.out k hk) HB.out.size) HG1.out fun k hk h => by have := own_base HO.out k hk; have := HD.out k h; omega
      have hws := (HW.out.fix hfx).snoc (c := c - startOf ns k) (HRB.out.fix hfx) HLE.out
      have hall : ns.take k ++ [nAt ns k] = ns := by
        rw [HNK.out, ← take_snoc' ns k HK.out.1, HK1.out, List.take_length]
      rw [hall] at hws
      have hlen := hws.1
      have ho1 := HO1.out
      obtain ⟨g2, cap, hv, hg1, hg2⟩ := ho1.form (by simp)
      rw [hlen] at hv ho1
      rw [hv] at ho1 ⊢
      have hcap : ns.length ≤ cap := own_cap ho1
      exact ⟨g2, cap, rfl, hcap, hg1, hg2, hws.rw ho1, HB1.out⟩
end Go.Proofs.YtkmdjpinpjcndaaGreatDoor

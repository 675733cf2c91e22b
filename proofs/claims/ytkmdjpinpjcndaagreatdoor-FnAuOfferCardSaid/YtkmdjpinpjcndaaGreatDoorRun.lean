/-
  The walk of the thin package's AuRun.
-/
import Derived.Test.YtkmdjpinpjcndaaGreatDoorImpl
import Derived.Deep.RegionWith
namespace Go.Proofs.YtkmdjpinpjcndaaGreatDoor
open Go.RowKit Go.Proofs.YtkmdjpinpjcndaaGreatDoorW.PrintWords
variable {P D : Nat → Prop} {w w1 w2 : World}

theorem Door.add62 {T K : Nat} {rem : List ByteArray} {out : List UInt8} {fds : Bool} {cs : Array Value} (h : Door P w T rem out fds) (hK : w.heap[K]? = some (.cells cs 62 (0, 0))) : Door (fun k => P k ∨ k = K) w T rem out fds := by
  obtain ⟨pv, rd, ov, h4, h5, ⟨es, he, h6⟩, h7⟩ := h
  refine ⟨pv, rd, ov, fun h => ?_, h5, ⟨es, he, h6.mono fun k hk hv => ?_⟩, h7.mono fun k hk hv => ?_⟩
  · rcases h with h | rfl
    · exact h4 h
    · exact blk_ne h5 hK (by decide) rfl
  · rcases hk with hk | rfl
    · exact hk
    · exact absurd hv.symm (h6.ne hK (by decide))
  · rcases hk with hk | rfl
    · exact hk
    · exact absurd hv.symm (h7.ne hK (by decide))

def sAt (ss : List ByteArray) (j : Nat) : ByteArray := ss.getD j ByteArray.empty
theorem sAt_eq (ss : List ByteArray) (j : Nat) (h : j < ss.length) : sAt ss j = ss[j] := by simp [sAt, List.getD_eq_getElem?_getD, h]
/-- Strings that are read, in a block of D. -/
def ReadsS (D : Nat → Prop) (w : World) (A : Option Addr) (ss : List ByteArray) : Prop :=
  ∀ j, j < ss.length → ∃ b o, A = some ⟨b, o, none⟩ ∧ D b ∧ w.cell? ⟨b, o + j, none⟩ = some (.string (sAt ss j))
theorem ReadsS.fix {A : Option Addr} {ss : List ByteArray} (h : ReadsS D w A ss) (hf : Fix D w w1) : ReadsS D w1 A ss := fun j hj => by
  obtain ⟨b, o, e, hD, hc⟩ := h j hj
  exact ⟨b, o, e, hD, (hf.cell (a := ⟨b, o + j, none⟩) hD).trans hc⟩

theorem set_nine (cc : Array Value) (v : Value) (h : 10 ≤ cc.size) : (cc.setIfInBounds 9 v)[9]? = some v := by
  rw [Array.getElem?_setIfInBounds]
  rw [if_pos rfl, if_pos (by omega)]
theorem res13 (tmps : Array Value) (W : World) : (results Tryz.f13 tmps).run Tryz.prog W = .ok (.tuple #[tmps.getD 6 undef, tmps.getD 7 undef, tmps.getD 8 undef, tmps.getD 9 undef]) W := by
  simp [results, Tryz.results13, go_sem]
/-- What a run has sent, the name that it has, and how it ended. -/
def RunPost (ok : Bool) (x : List UInt8) (ns ms : List (List UInt8)) (e : Ending) : Prop :=
  (ok = false ∧ e = .returned (.tuple #[.string ⟨([0] ++ (nAuth ++ [13, 10]) ++ (triedAll ns ms).flatMap authLine).toArray⟩, .string ⟨#[]⟩, .bool false, .bool false])) ∨
  (ok = true ∧ ∃ s ∈ ns, e = .returned (.tuple #[.string ⟨([0] ++ (nAuth ++ [13, 10]) ++ authLine s ++ (nBegin ++ [13, 10])).toArray⟩, .string ⟨x.toArray⟩, .bool false, .bool true]))

set_option maxRecDepth 100000 in
set_option maxHeartbeats 4000000 in
theorem AuRun_calls (ok : Bool) (x : List UInt8) (A B : Option Addr) (n cA nB cB : Nat) (ns : List (List UInt8)) (ml : List M4) (hello : ByteArray) (rem : List ByteArray) (fds : Bool)
    (hln : LineOf hello (nRej :: ns)) (hns : 0 < ns.length) (hn : ml.length = n) (hm : ReadsM (fun k => k < w.heap.size) w A ml) (hn2 : n ≤ 8) (hB : ReadsS (fun k => k < w.heap.size) w B (hello :: rem)) (hnB : (hello :: rem).length = nB)
    (hml : ∀ m ∈ ml, (m.k = 0 ∨ m.k = 1 ∨ m.k = 2) ∧ (m.f = 0 ∨ m.f = 1) ∧ m.name.size ≤ 1000 ∧ (ok = true → m.k = 1))
    (hrep : Rep ok x (triedAll ns (ml.map mName)).length [] rem) (hfd : ok = true → fds = false) (hok : ok = true → triedAll ns (ml.map mName) ≠ []) (hN : (triedAll ns (ml.map mName)).length ≤ 1000) :
    Calls Tryz.prog 13 #[.slice A n cA, .slice B nB cB, .bool fds] w fun e w' => RunPost ok x ns (ml.map mName) e ∧ Below w.heap.size w w' := by
  have hnB2 : nB ≤ 100000 := by
    rw [← hnB]
    rcases hrep with ⟨_, _, s, rfl, _⟩ | ⟨_, h, _⟩
    · simp
    · simp at h ⊢; omega
  have HM := Aside0.mk hm
  have HBB := Aside0.mk hB
  have HNB := Aside0.mk hnB
  have HALL := Aside0.mk (And.intro hln (And.intro hns (And.intro hn (And.intro hml (And.intro hrep (And.intro hfd (And.intro hok hN)))))))
  clear hm hB hnB hln hns hn hml hrep hfd hok hN
  go_enter Tryz.func13, Tryz.ntmps13
  go_wp2_with (go_at_call 21; refine (New_calls fds w).mono ?_)
  rintro e w1 ⟨K, T, C, cc, rfl, hKs, hCs, hK, hC, hc0, hcs, hc8, hc9, hd, hb⟩
  have HK := Aside0.mk hK
  have HC := Aside0.mk hC
  have HCC := Aside0.mk (And.intro hc0 (And.intro hcs (And.intro hc8 hc9)))
  have HS := Aside0.mk (And.intro hKs hCs)
  have HB1 := Aside0.mk hb
  have HLT1 := Aside0.mk (show Lt (fun k => (k < w.heap.size ∨ k = K) ∨ k = C) w1 from fun k hk => by
    rcases hk with (hk | rfl) | rfl
    · exact Nat.lt_of_lt_of_le hk hb.size
    · exact blk_lt hK
    · exact blk_lt hC)
  have HD1 := Aside0.mk ((hd.add62 hK).add hC)
  clear hKs hCs hK hC hc0 hcs hc8 hc9 hd hb
  go_wp2
  go_loopg [23] nB (fun q v23 w' => ∃ i : Nat, i ≤ nB ∧ Aside0 (q = nB - i) ∧ v23 = .int .i64 i ∧ Aside0 (Door (fun k => (k < w.heap.size ∨ k = K) ∨ k = C) w' T ((hello :: rem).take i) [] fds) ∧ Aside0 (Fix (fun k => (k < w.heap.size ∨ k = K) ∨ k = C) w1 w'))
  case atStart => exact ⟨0, by omega, ⟨by omega⟩, rfl, by simpa using HD1, ⟨Fix.refl _ _⟩⟩
  case round =>
    obtain ⟨i, hi, HQ, rfl, HD, HF⟩ := hrel
    have HLT := Aside0.mk (HF.out.lt HLT1.out)
    have HKR := Aside0.mk ((HF.out.block K (.inl (.inr rfl))).trans HK.out)
    by_cases hlt : i < nB
    · have hil : i < (hello :: rem).length := by rw [HNB.out]; exact hlt
      obtain ⟨b, o, rfl, _, hcell⟩ := ((HBB.out.fix (Fix.ofBelow HB1.out fun k hk => hk)).fix (HF.out.mono fun k hk => .inl (.inl hk))) i hil
      have HT := Aside0.mk (show (hello :: rem).take (i + 1) = (hello :: rem).take i ++ [sAt (hello :: rem) i] by rw [take_snoc' _ i hil, sAt_eq _ i hil])
      go_wp2_with (go_at_call 22; refine (Feed_calls K C T (.slice none 0 0) _ _ [] fds HKR.out HD.out HLT.out ?q1).mono ?_)
      case q1 => rw [List.length_take]; omega
      rintro e w2 ⟨rfl, hd2, hf2⟩
      have HD2 := Aside0.mk hd2
      have HF2 := Aside0.mk hf2
      clear hd2 hf2
      go_wp2
      go_roundg (nB - (i+1))
      case measure => have := HQ.out; omega
      case rel => exact ⟨i + 1, by omega, ⟨rfl⟩, by go_num, ⟨by rw [HT.out]; exact HD2.out⟩, ⟨HF.out.trans HF2.out⟩⟩
    · have hin : i = nB := by omega
      subst hin
      obtain ⟨hln, hns, hn, hml, hrep, hfd, hok, hN⟩ := HALL.out
      obtain ⟨hc0, hcs, hc8, hc9⟩ := HCC.out
      have hdr := HD.out
      rw [List.take_of_length_le (by rw [HNB.out]; exact Nat.le_refl _)] at hdr
      have HCR := Aside0.mk ((HF.out.block C (.inr rfl)).trans HC.out)
      have HAU := Aside0.mk (auth_calls (P := fun k => k < w.heap.size ∨ k = K) (w := wr) ok x K C T (.slice none 0 0) cc A n cA ns ml hello rem [] fds HKR.out HCR.out hc0 hcs
        (fun h => by
          rcases h with h | h
          · have := HS.out.2; omega
          · subst h; exact blk_ne HKR.out HCR.out (by decide) rfl)
        (hdr.mono fun k hk => .inl hk) (fun k hk => HLT.out k (.inl hk)) hln hns hn (((HM.out.fix (Fix.ofBelow HB1.out fun k hk => hk)).fix (HF.out.mono fun k hk => .inl (.inl hk))).mono fun k hk => .inl hk) hn2 hml hrep hfd hok (by simp) hN)
      clear hln hns hn hml hrep hfd hok hN hc0 hcs hc8 hc9 hdr HALL
      go_wp2_with (go_at_call 23; refine HAU.out.mono ?_)
      rintro e w3 (⟨hok1, ⟨t, v, rfl⟩, hd, hf, hc⟩ | ⟨hok1, rfl, ⟨s, hs, hd⟩, hf, hc⟩)
      · have HO1 := Aside0.mk hok1
        have HU := Aside0.mk HCC.out.2.2.2
        have H8 := Aside0.mk HCC.out.2.2.1
        clear hok1
        generalize hoo : [] ++ [0] ++ (nAuth ++ [13, 10]) ++ (triedAll ns (ml.map mName)).flatMap authLine = outx at hd
        have HOO := Aside0.mk hoo
        clear hoo
        have HX := Aside0.mk (And.intro hd (And.intro hf hc))
        have HKX := Aside0.mk ((hf.block K (.inr rfl)).trans HKR.out)
        have hTK : K ≠ T := fun e => by
          obtain ⟨pv, rd, ov, _, h5, _⟩ := hd
          subst e
          exact blk_ne HKX.out h5 (by decide) rfl
        have hTC : C ≠ T := fun e => by
          obtain ⟨pv, rd, ov, _, h5, _⟩ := hd
          subst e
          exact blk_ne hc h5 (by decide) rfl
        have HTT := Aside0.mk (And.intro hTK hTC)
        have kK : w3.cell? ⟨K, 0, none⟩ = some (.pointer (some ⟨C, 0, none⟩)) := blk_cell HKX.out 0
        have kK2 : ∀ v, (w3.setCell ⟨T, 2, none⟩ v).cell? ⟨K, 0, none⟩ = some (.pointer (some ⟨C, 0, none⟩)) := fun v => by
          rw [Lib.cell_of_heap ((Below.heap_setCell w3 ⟨T, 2, none⟩ v K hTK).trans HKX.out)]; rfl
        have HBL := Aside0.mk (show ∀ (v : Value) (m : Nat), Below w.heap.size w ((w3.setCell ⟨T, 2, none⟩ v).drewN m) from fun v m => by
          have hf3 : Fix (fun k => k < w.heap.size) w1 w3 := (HF.out.mono fun k hk => .inl (.inl hk)).trans (hf.mono fun k hk => .inl hk)
          have hTs : w.heap.size ≤ T := by
            rcases Nat.lt_or_ge T w.heap.size with h | h
            · obtain ⟨pv, rd, ov, hT, _⟩ := hd
              exact absurd (Or.inl h) hT
            · exact h
          exact pw_below_drewN ((HB1.out.trans hf3.below).setCell hTs v) m)
        clear hd hf hc hTK hTC
        go_wp2_with fail
        go_region_with (first
          | (go_at_call 24; refine (Sent_calls (w := w3.drew) K C T (.slice none 0 0) [] _ fds HKX.out (HX.out.1.stays fun _ _ _ => rfl)).mono ?_; rintro e w' ⟨rfl, v, rfl⟩)
          | (go_at_call 25; refine (Uuid_calls K C T (.slice none 0 0) _ _ (by first | exact HKX.out | exact (Below.heap_setCell _ _ _ _ HTT.out.1).trans HKX.out) (by first | exact HX.out.2.2 | exact (Below.heap_setCell _ _ _ _ HTT.out.2).trans HX.out.2.2) HU.out).mono ?_; rintro e _ ⟨rfl, rfl⟩)
          | (go_at_call 26; refine (Fds_calls C _ _ (by first | exact HX.out.2.2 | exact (Below.heap_setCell _ _ _ _ HTT.out.2).trans HX.out.2.2) H8.out).mono ?_; rintro e _ ⟨rfl, rfl⟩))
        all_goals go_wp2
        all_goals refine bodyPost_ret (res13 _ _) rfl ?_
        all_goals refine ⟨?_, HBL.out _ _⟩
        all_goals (have hoo := HOO.out; rw [List.nil_append] at hoo; unfold RunPost; exact .inl ⟨HO1.out, by rw [hoo]; rfl⟩)
      · have HO1 := Aside0.mk (And.intro hok1 hs)
        have HU := Aside0.mk (show (cc.setIfInBounds 9 (.string ⟨x.toArray⟩))[9]? = some (.string ⟨x.toArray⟩) from set_nine cc _ HCC.out.2.1)
        have H8 := Aside0.mk (show (cc.setIfInBounds 9 (.string ⟨x.toArray⟩))[8]? = some (.bool false) by rw [Array.getElem?_setIfInBounds_ne (by omega)]; exact HCC.out.2.2.1)
        clear hok1 hs
        generalize hoo : [] ++ [0] ++ (nAuth ++ [13, 10]) ++ authLine s ++ (nBegin ++ [13, 10]) = outx at hd
        have HOO := Aside0.mk hoo
        clear hoo
        have HX := Aside0.mk (And.intro hd (And.intro hf hc))
        have HKX := Aside0.mk ((hf.block K (.inr rfl)).trans HKR.out)
        have hTK : K ≠ T := fun e => by
          obtain ⟨pv, rd, ov, _, h5, _⟩ := hd
          subst e
          exact blk_ne HKX.out h5 (by decide) rfl
        have hTC : C ≠ T := fun e => by
          obtain ⟨pv, rd, ov, _, h5, _⟩ := hd
          subst e
          exact blk_ne hc h5 (by decide) rfl
        have HTT := Aside0.mk (And.intro hTK hTC)
        have kK : w3.cell? ⟨K, 0, none⟩ = some (.pointer (some ⟨C, 0, none⟩)) := blk_cell HKX.out 0
        have kK2 : ∀ v, (w3.setCell ⟨T, 2, none⟩ v).cell? ⟨K, 0, none⟩ = some (.pointer (some ⟨C, 0, none⟩)) := fun v => by
          rw [Lib.cell_of_heap ((Below.heap_setCell w3 ⟨T, 2, none⟩ v K hTK).trans HKX.out)]; rfl
        have HBL := Aside0.mk (show ∀ (v : Value) (m : Nat), Below w.heap.size w ((w3.setCell ⟨T, 2, none⟩ v).drewN m) from fun v m => by
          have hf3 : Fix (fun k => k < w.heap.size) w1 w3 := (HF.out.mono fun k hk => .inl (.inl hk)).trans (hf.mono fun k hk => .inl hk)
          have hTs : w.heap.size ≤ T := by
            rcases Nat.lt_or_ge T w.heap.size with h | h
            · obtain ⟨pv, rd, ov, hT, _⟩ := hd
              exact absurd (Or.inl h) hT
            · exact h
          exact pw_below_drewN ((HB1.out.trans hf3.below).setCell hTs v) m)
        clear hd hf hc hTK hTC
        go_wp2_with fail
        go_region_with (first
          | (go_at_call 24; refine (Sent_calls (w := w3.drew) K C T (.slice none 0 0) [] _ fds HKX.out (HX.out.1.stays fun _ _ _ => rfl)).mono ?_; rintro e w' ⟨rfl, v, rfl⟩)
          | (go_at_call 25; refine (Uuid_calls K C T (.slice none 0 0) _ _ (by first | exact HKX.out | exact (Below.heap_setCell _ _ _ _ HTT.out.1).trans HKX.out) (by first | exact HX.out.2.2 | exact (Below.heap_setCell _ _ _ _ HTT.out.2).trans HX.out.2.2) HU.out).mono ?_; rintro e _ ⟨rfl, rfl⟩)
          | (go_at_call 26; refine (Fds_calls C _ _ (by first | exact HX.out.2.2 | exact (Below.heap_setCell _ _ _ _ HTT.out.2).trans HX.out.2.2) H8.out).mono ?_; rintro e _ ⟨rfl, rfl⟩))
        all_goals go_wp2
        all_goals refine bodyPost_ret (res13 _ _) rfl ?_
        all_goals refine ⟨?_, HBL.out _ _⟩
        all_goals (have hoo := HOO.out; rw [List.nil_append] at hoo; unfold RunPost; exact .inr ⟨HO1.out.1, s, HO1.out.2, by rw [hoo]; rfl⟩)
end Go.Proofs.YtkmdjpinpjcndaaGreatDoor

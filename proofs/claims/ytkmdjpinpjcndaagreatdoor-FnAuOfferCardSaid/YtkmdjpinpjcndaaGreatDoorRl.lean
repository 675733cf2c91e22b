/-
  A line of the peer's, taken apart into words.
-/
import Derived.Test.YtkmdjpinpjcndaaGreatDoorWords
import Derived.Lib.SlBytesConst
namespace Go.Proofs.YtkmdjpinpjcndaaGreatDoor
open Go.RowKit Go.Proofs.YtkmdjpinpjcndaaGreatDoorW.PrintWords
variable {P D : Nat → Prop} {w w1 w2 : World}

theorem Sta.mono {T L : Nat} {rem : List ByteArray} {out : List UInt8} {fds : Bool} (h : Sta P w T L rem out fds) (hD : ∀ g, D g → P g) : Sta D w T L rem out fds := by
  obtain ⟨bv, h1, h2, h3, h4⟩ := h
  exact ⟨bv, fun h => h1 (hD _ h), h2, h3.mono fun g hg _ => hD g hg, h4.mono fun g hg => hg.imp (hD g) id⟩
/-- What is not there yet may be protected; new blocks turn nothing. -/
theorem Sta.below {T L : Nat} {rem : List ByteArray} {out : List UInt8} {fds : Bool} (h : Sta P w T L rem out fds) (hb : Below w.heap.size w w1) (hD : ∀ g, D g → P g ∨ w.heap.size ≤ g) : Sta D w1 T L rem out fds := by
  obtain ⟨bv, h1, h2, h3, h4⟩ := h
  refine ⟨bv, fun h => ?_, by rw [hb.block L (blk_lt h2)]; exact h2, ?_, ?_⟩
  · rcases hD _ h with h | h
    · exact h1 h
    · exact absurd (blk_lt h2) (Nat.not_lt.2 h)
  · refine (h3.stays fun g hg => hb.block g (h3.lt g hg)).mono fun g hg hv => ?_
    rcases hD g hg with h | h
    · exact h
    · exact absurd (h3.lt g hv) (Nat.not_lt.2 h)
  · refine (h4.more fun g hg => ?_).below hb
    rcases hg with hg | hg
    · exact (hD g hg).imp .inl id
    · exact .inl (.inr hg)

/-- The line's end is cut off. -/
theorem trim_calls (g o c bb d : Nat) (l : List UInt8) (w : World) (hc : l.length + 2 ≤ c) (hlim : l.length ≤ 100000) (hr : RB D w (some ⟨g, o, none⟩) (l ++ [13, 10])) (fr : Nat × Nat) (hb : w.heap[bb]? = some (.cells #[.int .u8 13, .int .u8 10] 5 fr)) :
    Calls Tryz.prog 56 #[.slice (some ⟨g, o, none⟩) (l.length + 2) c, .slice (some ⟨bb, 0, none⟩) 2 d] w fun e w' => e = .returned (.slice (some ⟨g, o, none⟩) l.length c) ∧ w = w' := by
  have h1 := hr.bytesIn
  have hl : (l ++ [13, 10]).length = l.length + 2 := by simp
  rw [hl] at h1
  obtain ⟨b, o1, e, hc1⟩ := h1 (by omega)
  injection e with e
  injection e with e1 e2
  subst e1 e2
  refine (Tryz.bytes_TrimSuffix g o (l.length + 2) c bb 0 2 d (ints (l ++ [13, 10])) [13, 10] w (by rw [ints_length, hl]) rfl hc (by omega) hc1 (fun i hi => ?_)).mono fun e w' h => ⟨?_, h.2.symm⟩
  · rw [Lib.cell_of_heap hb]
    rcases i with _ | _ | i
    · rfl
    · rfl
    · omega
  · rw [h.1]
    unfold Lib.bytesTrimSuffix
    rw [bytesOf_ints, show Lib.bytesOf [13, 10] = [13, 10] from rfl, if_pos (by simp [Lib.hasSuffix])]
    rfl

/-- A conversion of a constant's bytes to their own type. -/
theorem kconst (W : World) (C : Array Value) (n c : Nat) : (convert 35 35 (.slice (some ⟨W.heap.size, 0, none⟩) n c)).run Tryz.prog (W.alloc (.cells C 5)) = .ok (.slice (some ⟨W.heap.size, 0, none⟩) n c) (W.alloc (.cells C 5 (C.size, C.size + 1))) :=
  Lib.run_convert_bytes_const (P := Tryz.prog) W 35 5 C n c Tryz.underlying35 Tryz.underlying5
/-- A line of words. -/
structure LineOf (s : ByteArray) (ns : List (List UInt8)) : Prop where
  text : s.data.toList = sp ns ++ [13, 10]
  some : 0 < ns.length
  small : s.size ≤ 4096
  noEnd : (10 : UInt8) ∉ sp ns
  noBlank : ∀ x ∈ ns, (32 : UInt8) ∉ x

set_option maxRecDepth 100000 in
set_option maxHeartbeats 2000000 in
theorem readLine_calls (T L : Nat) (s : ByteArray) (ns : List (List UInt8)) (rem : List ByteArray) (out : List UInt8) (fds : Bool)
    (hS : Sta P w T L (s :: rem) out fds) (hP : Lt P w) (hln : LineOf s ns) (hrem : rem.length ≤ 1000000) :
    Calls Tryz.prog 50 #[.pointer (some ⟨L, 0, none⟩)] w fun e w' => ∃ (D : Nat → Prop) (g c : Nat), e = .returned (.tuple #[.slice (some ⟨g, 0, none⟩) ns.length c, .nilIface]) ∧ ns.length ≤ c ∧ (∀ k, P k → D k) ∧ Lt D w' ∧ RW D w' (some ⟨g, 0, none⟩) ns ∧
      Sta D w' T L rem out fds ∧ Fix P w w' := by
  have HLN := Aside0.mk hln
  have HSZ := Aside0.mk (show s.size = (sp ns).length + 2 by rw [← data_length, hln.text]; simp)
  have HRB := Aside0.mk (ReadBytes_calls T L s (sp ns ++ [13]) rem out fds hS hP (by rw [hln.text]; simp) (by intro h; rcases List.mem_append.1 h with h | h; exact hln.noEnd h; simp at h) hln.small hrem)
  have HP := Aside0.mk hP
  clear hS hP hln hrem
  rw [HSZ.out] at HRB
  have kcb := kconst
  go_enter Tryz.func50, Tryz.ntmps50
  go_wp2_with (go_at_call 55; refine HRB.out.mono ?_)
  rintro e w1 ⟨g, o, c, rfl, hc, hgP, hlt, hrb, hst, hfx⟩
  have HC := Aside0.mk hc
  have HGP := Aside0.mk hgP
  have HLT := Aside0.mk hlt
  have HB := Aside0.mk hrb
  have HST := Aside0.mk hst
  have HFX := Aside0.mk hfx
  clear hc hgP hlt hrb hst hfx
  have HW2 := Aside0.mk (show Below w1.heap.size w1 (w1.alloc (.cells #[.int .u8 13, .int .u8 10] 5 (2, 3))) from (Below.refl _ _).alloc (Nat.le_refl _) _)
  have HBA := Aside0.mk (show RB (fun k => P k ∨ k = g) (w1.alloc (.cells #[.int .u8 13, .int .u8 10] 5 (2, 3))) (some ⟨g, o, none⟩) (sp ns ++ [13, 10]) by
    have := (HB.out.mono fun k hk => .inr hk : RB (fun k => P k ∨ k = g) w1 _ _).fix (Fix.ofBelow HW2.out HLT.out)
    rwa [HLN.out.text] at this)
  go_wp2_with (go_at_call 56; refine (trim_calls (D := fun k => P k ∨ k = g) g o c w1.heap.size 2 (sp ns) _ HC.out ?_ HBA.out _ (heap_alloc_new w1 _)).mono ?_)
  · have := HLN.out.small; have := HSZ.out; omega
  rintro e w2 ⟨rfl, rfl⟩
  have HB2 := Aside0.mk (show RB (fun k => P k ∨ k = g) (w1.alloc (.cells #[.int .u8 13, .int .u8 10] 5 (2, 3))) (some ⟨g, o, none⟩) (sp ns) from ⟨by have := HBA.out.small; simp at this; omega, fun hl => by
    obtain ⟨b, o1, e, hD, hcl⟩ := HBA.out.cells (by simp)
    exact ⟨b, o1, e, hD, fun j hj => by rw [hcl j (by simp; omega), List.getElem_append_left hj]⟩⟩)
  have HLT2 := Aside0.mk (show Lt (fun k => P k ∨ k = g) (w1.alloc (.cells #[.int .u8 13, .int .u8 10] 5 (2, 3))) from fun k hk => by have := HLT.out k hk; simp; omega)
  clear HBA
  go_wp2_with (go_at_call 57; refine (zzWords_calls g o (sp ns).length c ns HB2.out rfl HLN.out.some HLN.out.noBlank ?q1 ?q2 HLT2.out).mono ?_)
  case q1 => have := HC.out; omega
  case q2 => have := HLN.out.small; have := HSZ.out; omega
  rintro e w3 ⟨g2, c2, rfl, h1, h2, h3, h4, h5⟩
  have H1 := Aside0.mk (And.intro h1 (And.intro h2 (And.intro h3 (And.intro h4 h5))))
  clear h1 h2 h3 h4 h5
  go_wp2
  go_ret2
  obtain ⟨h1, h2, h3, h4, h5⟩ := H1.out
  have hbel : Below w1.heap.size w1 w3 := HW2.out.trans (h5.mono (by simp))
  simp at h2
  refine ⟨fun k => (P k ∨ k = g) ∨ k = g2, g2, c2, rfl, h1, fun k hk => .inl (.inl hk), fun k hk => ?_, h4, HST.out.below hbel fun k hk => ?_, HFX.out.trans (Fix.ofBelow hbel fun k hk => HLT.out k (.inl hk))⟩
  · rcases hk with hk | rfl
    · have := HLT.out k hk
      have := hbel.size
      omega
    · exact h3
  · rcases hk with hk | rfl
    · exact .inl hk
    · exact .inr (by omega)
end Go.Proofs.YtkmdjpinpjcndaaGreatDoor

/-
  The walk of the function that makes a line out of words.
-/
import Derived.Test.YtkmdjpinpjcndaaDoorWrite
import Derived.Test.YtkmdjpinpjcndaaDoorJoin
namespace Go.Proofs.YtkmdjpinpjcndaaDoor
open Go.RowKit Go.Proofs.YtkmdjpinpjcndaaDoorW.PrintWords

/-- A block that holds these bytes. -/
def BytesAt (w : World) (g : Nat) (l : List UInt8) : Prop :=
  ∃ cells fr, w.heap[g]? = some (.cells cells 5 fr) ∧ ∀ (j : Nat) (h : j < l.length), cells[j]? = some (.int .u8 (l[j]).toNat)
theorem BytesAt.reads {w : World} {g : Nat} {l : List UInt8} (h : BytesAt w g l) (hl : l.length ≤ 9223372036854775807) : ReadsInt w .u8 (some ⟨g, 0, none⟩) l.length (ints l) := by
  obtain ⟨cells, fr, hh, hc⟩ := h
  refine ⟨ints_length l, hl, fun _ => ⟨_, rfl, fun j hj => ?_⟩⟩
  rw [add_plain, Lib.cell_of_heap hh, hc j hj]
  simp [ints, List.getD_eq_getElem?_getD, List.getElem?_eq_getElem hj]
theorem BytesAt.new (W : World) (s : ByteArray) : BytesAt (Lib.bytesWorld W 5 s) W.heap.size s.data.toList := by
  refine ⟨_, _, Lib.bytesWorld_at_new W 5 s, fun j h => ?_⟩
  have h' : j < s.size := by rw [← data_length]; exact h
  have := Lib.bytesWorld_cell W 5 s j h'
  rw [Lib.cell_of_heap (Lib.bytesWorld_at_new W 5 s)] at this
  rw [this]
  simp [List.getD_eq_getElem?_getD, List.getElem?_eq_getElem h]
theorem BytesAt.lt {w : World} {g : Nat} {l : List UInt8} (h : BytesAt w g l) : g < w.heap.size := by
  obtain ⟨cells, fr, hh, hc⟩ := h
  exact (Array.getElem?_eq_some_iff.1 hh).1
/-- What is written is a row of another type. -/
theorem BytesAt.other {w w1 : World} {g : Nat} {l : List UInt8} {base n e size : Nat} {v : Value} {xs : List Value} (h : BytesAt w g l) (ho : w.ownsRow base e size v n xs) (he : e ≠ 5) (hg : w.grownBy w1 v.ownBlock) : BytesAt w1 g l := by
  have hlt := h.lt
  obtain ⟨cells, fr, hh, hc⟩ := h
  refine ⟨cells, fr, ?_, hc⟩
  rw [hg.block g hlt ?_]
  · exact hh
  · intro hk
    obtain ⟨cs, hcs⟩ := own_typed ho g hk.symm
    rw [hh] at hcs
    injection hcs with hcs
    injection hcs with _ ht _
    exact he ht.symm
theorem BytesAt.below {w w1 : World} {g : Nat} {l : List UInt8} (h : BytesAt w g l) (hb : Below w.heap.size w w1) : BytesAt w1 g l := by
  have hlt := h.lt
  obtain ⟨cells, fr, hh, hc⟩ := h
  exact ⟨cells, fr, by rw [hb.block g hlt]; exact hh, hc⟩

/-- Values that are slices over blocks of bytes. -/
def LinesAt (w : World) (vs : List Value) (ls : List (List UInt8)) : Prop :=
  vs.length = ls.length ∧ ∀ (j : Nat) (h : j < ls.length), ∃ g c, vs[j]? = some (.slice (some ⟨g, 0, none⟩) (ls[j]).length c) ∧ BytesAt w g ls[j]
theorem LinesAt.nil (w : World) : LinesAt w [] [] := ⟨rfl, fun j h => by simp at h⟩
theorem LinesAt.imp {w w1 : World} {vs : List Value} {ls : List (List UInt8)} (h : LinesAt w vs ls) (hi : ∀ g l, BytesAt w g l → BytesAt w1 g l) : LinesAt w1 vs ls :=
  ⟨h.1, fun j hj => by
    obtain ⟨g, c, e, hb⟩ := h.2 j hj
    exact ⟨g, c, e, hi _ _ hb⟩⟩
theorem LinesAt.snoc {w : World} {vs : List Value} {ls : List (List UInt8)} {g c : Nat} {l : List UInt8} (h : LinesAt w vs ls) (hb : BytesAt w g l) : LinesAt w (vs ++ [.slice (some ⟨g, 0, none⟩) l.length c]) (ls ++ [l]) := by
  refine ⟨by simp [h.1], fun j hj => ?_⟩
  by_cases hlt : j < ls.length
  · obtain ⟨g', c', e, hb'⟩ := h.2 j hlt
    refine ⟨g', c', ?_, ?_⟩
    · rw [List.getElem?_append_left (by rw [h.1]; exact hlt), e, List.getElem_append_left hlt]
    · rw [List.getElem_append_left hlt]; exact hb'
  · have hj' : j = ls.length := by simp at hj; omega
    subst hj'
    refine ⟨g, c, ?_, ?_⟩
    · rw [List.getElem?_append_right (by rw [h.1]; exact Nat.le_refl _)]
      simp [h.1]
    · simpa using hb
theorem LinesAt.readsBB {w : World} {base n : Nat} {v : Value} {vs : List Value} {ls : List (List UInt8)} (h : LinesAt w vs ls) (ho : w.ownsRow base 26 1 v n vs) (hn : ls.length = n) (hl : ∀ l ∈ ls, l.length ≤ 9223372036854775807) : ∃ A c, v = .slice A n c ∧ ReadsBB w A n ls := by
  obtain ⟨A, c, hv⟩ := own_slice ho
  subst hv
  have hm : n ≤ 9223372036854775807 := by
    rcases ho.2 with ⟨h1, h2⟩ | ⟨g', cap', cur, he, _, _, h1, h2, _⟩
    · omega
    · simp only [maxLen] at h2
      omega
  refine ⟨A, c, rfl, hn, hm, fun j hj => ?_⟩
  obtain ⟨g, cap, he, _, _⟩ := ho.form (by omega)
  injection he with e1 e2 e3
  subst e1
  obtain ⟨gj, cj, ej, hb⟩ := h.2 j hj
  exact ⟨_, _, cj, rfl, ho.cells (g := g) rfl j _ ej, hb.reads (hl _ (List.getElem_mem hj))⟩

theorem fresh_at {w w1 : World} (hb : Below (w.heap.size + 1) (w.alloc (.cells #[.slice none 0 0, .int .i64 0, .int .i8 0] 30)) w1) : Lib.IsBuffer 30 5 w.heap.size w.heap.size [] w1 :=
  ⟨Nat.le_refl _, .slice none 0 0, 0, by rw [hb.block _ (Nat.lt_succ_self _)]; exact heap_alloc_new w _, own_nil _ _ _ _, by simp [Value.ownBlock]⟩

/-- The words' bytes. -/
def bytesAll (ss : List ByteArray) : List (List UInt8) := ss.map (·.data.toList)
theorem bytesAll_take (ss : List ByteArray) (k : Nat) (hk : k < ss.length) : bytesAll (ss.take (k + 1)) = bytesAll (ss.take k) ++ [(sAt ss k).data.toList] := by
  rw [sAt_eq ss k hk, take_snoc' ss k hk]; simp only [bytesAll, List.map_append, List.map_cons, List.map_nil]

set_option maxRecDepth 100000 in
set_option maxHeartbeats 1000000 in
theorem DoorLine_calls (A0 : Option Addr) (n c0 : Nat) (ss : List ByteArray) (w : World) (hr : ReadsStr w A0 n ss) (hm : ∀ s ∈ ss, s.size ≤ 200) (hn : n ≤ 100) :
    Calls Tryd.prog 7 #[.slice A0 n c0] w fun e w' => e = .returned (.string ⟨(sp (bytesAll ss) ++ [13, 10]).toArray⟩) ∧ Below w.heap.size w w' := by
  have HL := Aside0.mk hr.1
  have HM := hr.2.1
  have HR := Aside0.mk hr
  have HMM := Aside0.mk hm
  clear hr hm
  have kb := fun (s : ByteArray) W => print_bytes (P := Tryd.prog) 9 26 5 Tryd.underlying9 Tryd.underlying26 Tryd.underlying5 s W
  go_enter Tryd.func7, Tryd.ntmps7
  go_wp2
  go_loopg [4, 10] n (fun q v4 v10 w' => ∃ (k : Nat) (vs : List Value), k ≤ n ∧ Aside0 (q = n - k) ∧ v10 = .int .i64 k ∧ Aside0 (w'.ownsRow (w.heap.size + 1) 26 1 v4 vs.length vs) ∧ Aside0 (LinesAt w' vs (bytesAll (ss.take k))) ∧ Aside0 (Below (w.heap.size + 1) (w.alloc (.cells #[.slice none 0 0, .int .i64 0, .int .i8 0] 30)) w'))
  case atStart => 
    refine ⟨0, [], by omega, ⟨by omega⟩, rfl, ⟨own_nil _ _ _ _⟩, ⟨by simpa [bytesAll] using LinesAt.nil _⟩, ⟨Below.refl _ _⟩⟩
  case round =>
    obtain ⟨k, vs, hk, HQ, rfl, HO, HLN, HB⟩ := hrel
    by_cases hlt : k < n
    · have hks : k < ss.length := by rw [HL.out]; exact hlt
      obtain ⟨ad, rfl, hcell0⟩ := HR.out.at_ k hlt
      have hcell : wr.cell? (ad.add k) = some (.string (sAt ss k)) := by
        rw [← hcell0]
        have hb := World.block_lt_of_cell? w _ hcell0
        rw [HB.out.cell (by omega)]
        exact pw_cell_below (below_alloc (Below.refl _ _) _) hcell0 |>.trans hcell0.symm
      clear hcell0
      have hsz := Aside0.mk (HMM.out (sAt ss k) (by rw [sAt_eq ss k hks]; exact List.getElem_mem hks))
      have hvl := Aside0.mk (show vs.length = k by rw [HLN.out.1]; simp [bytesAll]; omega)
      have hBs := Aside0.mk (show w.heap.size + 1 ≤ wr.heap.size by have := HB.out.size; simp at this; omega)
      go_wp2_with (first
          | ((with_reducible refine gate_builtin (b := .append) (xs := #[.tmp 14, .tmp 17]) rfl ?_); at_builtin; 
             refine print_append (w0 := w.alloc (.cells #[.slice none 0 0, .int .i64 0, .int .i8 0] 30)) (W := Lib.bytesWorld wr 5 (sAt ss k)) (w.heap.size + 1) rfl (.tmp 14) (.tmp 17) 31 26 (.slice none 0 0) 24 rfl Tryd.underlying31 info26 rfl (by decide) u4 vs _ rfl rfl rfl ?r0 ?r1 ?r2 ?r3 ?_
             (case r0 => exact pw_own_below HO.out (bytes_below (Below.refl _ _) (Nat.le_refl _) 5 _))
             (case r1 => exact bytes_below HB.out hBs.out 5 _)
             (case r2 => rw [Lib.bytesWorld_size]; have := hBs.out; omega)
             (case r3 => have := hvl.out; omega)
             intro v1 w1 ho hb hg hat
             have HO1 := Aside0.mk ho
             have HB1 := Aside0.mk hb
             have HG1 := Aside0.mk hg
             clear ho hb hg hat))
      go_roundg (n - (k+1))
      case measure => have := HQ.out; omega
      case rel =>
        have how := pw_own_below HO.out (bytes_below (Below.refl _ wr) (Nat.le_refl _) 5 (sAt ss k))
        have hl := HLN.out.imp (w1 := w1) fun g l hb => (hb.below (bytes_below (Below.refl _ wr) (Nat.le_refl _) 5 (sAt ss k))).other how (by decide) HG1.out
        have hl2 := hl.snoc (c := grownCap wr (sAt ss k).size 0 5) ((BytesAt.new wr (sAt ss k)).other how (by decide) HG1.out)
        rw [data_length] at hl2
        refine ⟨k+1, vs ++ [.slice (some ⟨wr.heap.size, 0, none⟩) (sAt ss k).size (grownCap wr (sAt ss k).size 0 5)], by omega, ⟨rfl⟩, by go_num, HO1, ⟨?_⟩, HB1⟩
        rw [bytesAll_take ss k hks]
        exact hl2
    · have hkn : k = n := by omega
      subst hkn
      have hvl : vs.length = k := by
        rw [HLN.out.1]
        simp [bytesAll, HL.out]
      have htk : ss.take k = ss := by rw [← HL.out, List.take_length]
      have hln := HLN.out
      rw [htk] at hln
      have hw : ∀ l ∈ bytesAll ss, l.length ≤ 200 := by
        intro l hl
        obtain ⟨s, hs, rfl⟩ := List.mem_map.1 hl
        rw [data_length]
        exact HMM.out s hs
      obtain ⟨A, c, hv, hbb⟩ := hln.readsBB HO.out (by rw [hvl]; simp [bytesAll, HL.out]) (fun l hl => by have := hw l hl; omega)
      have HLT := Aside0.mk (total_le (bytesAll ss) 200 hw)
      have HSL := Aside0.mk (show (bytesAll ss).length = k by simp [bytesAll, HL.out])
      rw [hvl] at hv hbb
      have HBB := Aside0.mk hbb
      have HBUF := Aside0.mk (fresh_at HB.out)
      rw [hv]
      clear hbb hln hw htk hv hvl hlt hk
      go_wp2_with (go_at_call 8; refine (authWriteLine_calls w.heap.size w.heap.size A k c (bytesAll ss) wr HBUF.out ?q1 HBB.out ?q2).mono ?_)
      case q1 => have := HB.out.size; simp at this; omega
      case q2 => have := HLT.out; have := HSL.out; rw [HSL.out] at *; omega
      rintro e w3 ⟨rfl, hb3, hbel⟩
      have HB3 := Aside0.mk hb3
      have HBEL := Aside0.mk hbel
      clear hb3 hbel
      go_wp2_with (go_at_call 9; refine (Tryd.Buffer_String w.heap.size w.heap.size _ w3 HB3.out).mono ?_)
      rintro e w4 ⟨rfl, m, rfl⟩
      go_wp2
      go_ret
      refine ⟨rfl, ?_⟩
      exact pw_below_drewN ((((Below.refl _ w).alloc (Nat.le_refl _) _).trans (HB.out.mono (by omega))).trans HBEL.out) m
end Go.Proofs.YtkmdjpinpjcndaaDoor

/-
  One mechanism tried: the peer's reply.
-/
import Derived.Test.YtkmdjpinpjcndaaGreatDoorRl
namespace Go.Proofs.YtkmdjpinpjcndaaGreatDoor
open Go.RowKit Go.Proofs.YtkmdjpinpjcndaaGreatDoorW.PrintWords
variable {P D : Nat → Prop} {w w1 w2 : World}

/-- string of a word. -/
theorem str_of {A : Option Addr} {c : Nat} {l : List UInt8} (h : RB D w A l) : (convert 35 9 (.slice A l.length c)).run Tryz.prog w = .ok (.string ⟨l.toArray⟩) w := by
  have := string_of_reads (P := Tryz.prog) (c := c) Tryz.underlying35 Tryz.underlying5 Tryz.underlying9 h.reads
  rw [this]
  have : strOfNums (ints l) = ⟨l.toArray⟩ := by
    apply ByteArray.ext
    apply Array.ext'
    rw [← Lib.toList_data, Lib.strOfNums_toList, bytesOf_ints]
  rw [this]

set_option maxRecDepth 100000 in
set_option maxHeartbeats 4000000 in
theorem tryAuth_rej (C T L : Nat) (mv : Value) (st : Int) (hst : st = 0 ∨ st = 1) (s : ByteArray) (rem : List ByteArray) (out : List UInt8) (fds : Bool)
    (hS : Sta P w T L (s :: rem) out fds) (hP : Lt P w) (hln : LineOf s [[82, 69, 74, 69, 67, 84, 69, 68]]) (hrem : rem.length ≤ 1000000) :
    Calls Tryz.prog 53 #[.pointer (some ⟨C, 0, none⟩), mv, .int .u8 st, .pointer (some ⟨L, 0, none⟩)] w fun e w' => e = .returned (.tuple #[.bool false, .nilIface]) ∧ Sta P w' T L rem out fds ∧ Fix P w w' := by
  have HRL := Aside0.mk (readLine_calls T L s _ rem out fds hS hP hln hrem)
  clear hS hP hln hrem
  rcases hst with rfl | rfl
  · go_enter Tryz.func53, Tryz.ntmps53
    go_wp2
    go_loopg [2] 1 (fun q v2 w' => v2 = .int .u8 0 ∧ w = w')
    case atStart => exact ⟨rfl, rfl⟩
    case round =>
      obtain ⟨rfl, rfl⟩ := hrel
      go_wp2_with (go_at_call 50; refine HRL.out.mono ?_)
      rintro e w1 ⟨D, g, c, rfl, hc, hPD, hlt, hrw, hst, hfx⟩
      obtain ⟨b, o, Aj, cj, e, hd, hcell, hrb⟩ := hrw.cells 0 (by simp)
      injection e with e
      injection e with e1 e2
      subst e1 e2
      have kst := str_of (c := cj) hrb
      have HH := Aside0.mk (And.intro (hst.mono hPD) hfx)
      clear hst hfx hrb hrw hPD hlt hc hd
      simp only [List.getElem_cons_zero, List.length_cons, List.length_nil, Nat.add_zero] at hcell kst
      go_wp2
      go_ret2
      exact ⟨rfl, HH.out.1, HH.out.2⟩
  · go_enter Tryz.func53, Tryz.ntmps53
    go_wp2
    go_loopg [2] 1 (fun q v2 w' => v2 = .int .u8 1 ∧ w = w')
    case atStart => exact ⟨rfl, rfl⟩
    case round =>
      obtain ⟨rfl, rfl⟩ := hrel
      go_wp2_with (go_at_call 50; refine HRL.out.mono ?_)
      rintro e w1 ⟨D, g, c, rfl, hc, hPD, hlt, hrw, hst, hfx⟩
      obtain ⟨b, o, Aj, cj, e, hd, hcell, hrb⟩ := hrw.cells 0 (by simp)
      injection e with e
      injection e with e1 e2
      subst e1 e2
      have kst := str_of (c := cj) hrb
      have HH := Aside0.mk (And.intro (hst.mono hPD) hfx)
      clear hst hfx hrb hrw hPD hlt hc hd
      simp only [List.getElem_cons_zero, List.length_cons, List.length_nil, Nat.add_zero] at hcell kst
      go_wp2
      go_ret2
      exact ⟨rfl, HH.out.1, HH.out.2⟩

/-- A block of a connection beside the reader's and the door's. -/
theorem Sta.add {T L C : Nat} {rem : List ByteArray} {out : List UInt8} {fds : Bool} {cc : Array Value} (h : Sta P w T L rem out fds) (hC : w.heap[C]? = some (.cells cc 118 (0, 0))) : Sta (fun k => P k ∨ k = C) w T L rem out fds := by
  obtain ⟨bv, h1, h2, h3, pv, rd, ov, h4, h5, ⟨es, he, h6⟩, h7⟩ := h
  refine ⟨bv, fun h => ?_, h2, h3.mono fun k hk hv => ?_, pv, rd, ov, fun h => ?_, h5, ⟨es, he, h6.mono fun k hk hv => ?_⟩, h7.mono fun k hk hv => ?_⟩
  · rcases h with h | rfl
    · exact h1 h
    · exact blk_ne h2 hC (by decide) rfl
  · rcases hk with hk | rfl
    · exact hk
    · exact absurd hv.symm (h3.ne hC (by decide))
  · rcases h with (h | rfl) | h
    · exact h4 (.inl h)
    · exact blk_ne h5 hC (by decide) rfl
    · exact h4 (.inr h)
  · rcases hk with (hk | rfl) | hk
    · exact .inl hk
    · exact absurd hv.symm (h6.ne hC (by decide))
    · exact .inr hk
  · rcases hk with (hk | rfl) | hk
    · exact .inl hk
    · exact absurd hv.symm (h7.ne hC (by decide))
    · exact .inr hk
/-- A change of a protected block. -/
theorem Sta.stays {T L : Nat} {rem : List ByteArray} {out : List UInt8} {fds : Bool} (h : Sta P w T L rem out fds) (hb : ∀ g, ¬ P g → g < w.heap.size → w1.heap[g]? = w.heap[g]?) : Sta P w1 T L rem out fds := by
  obtain ⟨bv, h1, h2, h3, pv, rd, ov, h4, h5, ⟨es, he, h6⟩, h7⟩ := h
  refine ⟨bv, h1, by rw [hb L h1 (blk_lt h2)]; exact h2, h3.stays fun k hk => hb k (h3.block k hk).1 (h3.lt k hk), pv, rd, ov, h4, by rw [hb T (fun h => h4 (.inl h)) (blk_lt h5)]; exact h5, ⟨es, he, h6.stays fun k hk => hb k (fun h => (h6.block k hk).1 (.inl h)) (h6.lt k hk)⟩, h7.stays fun k hk => hb k (fun h => (h7.block k hk).1 (.inl h)) (h7.lt k hk)⟩

set_option maxRecDepth 100000 in
set_option maxHeartbeats 4000000 in
theorem tryAuth_ok (C T L : Nat) (mv : Value) (s : ByteArray) (x : List UInt8) (rem : List ByteArray) (out : List UInt8) (fds : Bool) (cc : Array Value) (hcs : 10 ≤ cc.size)
    (hC : w.heap[C]? = some (.cells cc 118 (0, 0))) (hCP : ¬ P C)
    (hS : Sta P w T L (s :: rem) out fds) (hP : Lt P w) (hln : LineOf s [[79, 75], x]) (hrem : rem.length ≤ 1000000) :
    Calls Tryz.prog 53 #[.pointer (some ⟨C, 0, none⟩), mv, .int .u8 1, .pointer (some ⟨L, 0, none⟩)] w fun e w' => e = .returned (.tuple #[.bool true, .nilIface]) ∧ Sta P w' T L rem out fds ∧ Fix P w w' ∧ w'.heap[C]? = some (.cells (cc.setIfInBounds 9 (.string ⟨x.toArray⟩)) 118 (0, 0)) := by
  have HRL := Aside0.mk (readLine_calls T L s _ rem out fds (hS.add hC) (fun k hk => by rcases hk with hk | rfl; exact hP k hk; exact blk_lt hC) hln hrem)
  have HC := Aside0.mk hC
  have HCS := Aside0.mk hcs
  have HCP := Aside0.mk hCP
  clear hS hP hln hrem hC hcs hCP
  go_enter Tryz.func53, Tryz.ntmps53
  go_wp2
  go_loopg [2] 1 (fun q v2 w' => v2 = .int .u8 1 ∧ w = w')
  case atStart => exact ⟨rfl, rfl⟩
  case round =>
    obtain ⟨rfl, rfl⟩ := hrel
    go_wp2_with (go_at_call 50; refine HRL.out.mono ?_)
    rintro e w1 ⟨D, g, c, rfl, hc, hPD, hlt, hrw, hst, hfx⟩
    obtain ⟨b, o, Aj, cj, e, hd, hcell, hrb⟩ := hrw.cells 0 (by simp)
    injection e with e
    injection e with e1 e2
    subst e1 e2
    obtain ⟨b, o, Ak, ck, e, hd', hcell1, hrb1⟩ := hrw.cells 1 (by simp)
    injection e with e
    injection e with e1 e2
    subst e1 e2
    have kst := str_of (c := cj) hrb
    have kst1 := str_of (c := ck) hrb1
    have HH := Aside0.mk (And.intro (hst.mono hPD) hfx)
    have HH1 := Aside0.mk (show w1.heap[C]? = _ from (hfx.block C (.inr rfl)).trans HC.out)
    have d7 : ∃ v, w1.cell? ⟨C, 9, none⟩ = some v := by
      rw [blk_cell HH1.out 9]
      exact ⟨_, Array.getElem?_eq_getElem (by have := HCS.out; omega)⟩
    obtain ⟨v7, d7⟩ := d7
    have e7 := blk_frozen HH1.out 9
    clear hst hfx hrb hrw hPD hlt hd hrb1 hd'
    simp only [List.getElem_cons_zero, List.getElem_cons_succ, List.length_cons, List.length_nil, Nat.add_zero, Nat.zero_add] at hcell hcell1 kst kst1 hc
    go_wp2
    go_ret2
    refine ⟨rfl, ?_, ?_, heap_setCell_same _ C 9 _ 118 _ HH1.out⟩
    · exact (HH.out.1.stays fun k hk _ => Below.heap_setCell _ _ _ _ fun e => hk (.inr e)).mono fun k hk => .inl hk
    · exact (HH.out.2.mono fun k hk => .inl hk).trans (Fix.setCell HCP.out _)
end Go.Proofs.YtkmdjpinpjcndaaGreatDoor

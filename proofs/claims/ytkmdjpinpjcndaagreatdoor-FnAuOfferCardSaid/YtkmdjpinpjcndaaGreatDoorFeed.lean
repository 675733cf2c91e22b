/-
  What the peer will say, laid down; what was said to it, and what came out, read.
-/
import Derived.Test.YtkmdjpinpjcndaaGreatDoorRead
namespace Go.Proofs.YtkmdjpinpjcndaaGreatDoor
open Go.RowKit Go.Proofs.YtkmdjpinpjcndaaGreatDoorW.PrintWords
variable {P D : Nat → Prop} {w w1 w2 : World}

theorem feed_done (T : Nat) (A1 : Option Addr) (n1 c1 : Nat) (rd : Int) (pv ov : Value) (rem es : List ByteArray) (s : ByteArray) (out : List UInt8) (fds : Bool)
    (hT : ¬ P T) (hh : w.heap[T]? = some (.cells #[pv, .int .i64 rd, ov, .bool fds, .bool false] 73 (0, 0))) (he : es = [] ∨ es = [⟨#[]⟩]) (hp : Buf P w 9 pv (pw_strs (es ++ rem))) (ho : Buf P w 5 ov (Lib.byteCells out)) (hL : Lt P w)
    (hb : Buf P w2 9 (.slice A1 n1 c1) (pw_strs (es ++ rem) ++ [.string s])) (hg : ((w.drew).alloc (.cells #[.string s] 9)).grownBy w2 pv.ownBlock) :
    Door P (w2.setCell ⟨T, 0, none⟩ (.slice A1 n1 c1)) T (rem ++ [s]) out fds ∧ Fix P w (w2.setCell ⟨T, 0, none⟩ (.slice A1 n1 c1)) := by
  have hlT := blk_lt hh
  have hh2 : w2.heap[T]? = some (.cells #[pv, .int .i64 rd, ov, .bool fds, .bool false] 73 (0, 0)) := by
    rw [hg.block T (by simp [World.alloc]; exact Nat.lt_succ_of_lt hlT) (hp.ne hh (by decide)), Below.heap_alloc w.drew _ T hlT]
    exact hh
  refine ⟨⟨.slice A1 n1 c1, rd, ov, hT, blk_put hh2 0 _ rfl, ⟨es, he, ?_⟩, ?_⟩, ?_⟩
  · have e : pw_strs (es ++ (rem ++ [s])) = pw_strs (es ++ rem) ++ [.string s] := by simp [pw_strs]
    rw [e]
    exact hb.stays fun k hk => Below.heap_setCell _ _ _ _ fun e => hb.ne hh2 (by decide) (by rw [hk, e])
  · refine ho.stays fun k hk => ?_
    have hk2 : k ≠ T := fun e => ho.ne hh (by decide) (by rw [hk, e])
    have hkl := ho.lt k hk
    rw [Below.heap_setCell _ _ _ _ hk2, hg.block k (by simp [World.alloc]; exact Nat.lt_succ_of_lt hkl) (fun e => ?_), Below.heap_alloc w.drew _ k hkl]
    · rfl
    · obtain ⟨_, cs, h1⟩ := ho.block k hk
      exact hp.ne h1 (by decide) e
  · have h1 : Fix P w (w.drew.alloc (.cells #[.string s] 9)) := ⟨rfl, rfl, rfl, by simp [World.alloc], fun g hg => Below.heap_alloc w.drew _ g (hL g hg)⟩
    exact (h1.trans (Fix.grown (h1.lt hL) hg fun k hk => (hp.block k hk).1)).trans (Fix.setCell hT _)

set_option maxRecDepth 100000 in
set_option maxHeartbeats 2000000 in
theorem Feed_calls (K C T : Nat) (x3 : Value) (s : ByteArray) (rem : List ByteArray) (out : List UInt8) (fds : Bool) (hK : w.heap[K]? = some (.cells #[.pointer (some ⟨C, 0, none⟩), .pointer (some ⟨T, 0, none⟩), x3] 62 (0, 0)))
    (hD : Door P w T rem out fds) (hP : Lt P w) (hrem : rem.length ≤ 1000000) :
    Calls Tryz.prog 22 #[.pointer (some ⟨K, 0, none⟩), .string s] w fun e w' => e = .returned (.tuple #[]) ∧ Door P w' T (rem ++ [s]) out fds ∧ Fix P w w' := by
  obtain ⟨pv, rd, ov, hT, hh, ⟨es, he, hp⟩, ho⟩ := hD
  obtain ⟨A0, cA, hv⟩ := hp.form
  generalize hn : (pw_strs (es ++ rem)).length = n at hv
  subst hv
  have HFIN := Aside0.mk (fun A1 n1 c1 w2 hb hg => feed_done (w2 := w2) T A1 n1 c1 rd _ ov rem es s out fds hT hh he hp ho hP hb hg)
  have c1 := blk_cell hK 1
  have c0 := blk_cell hh 0
  have k1 : (w.alloc (.cells #[.string s] 9)).cell? ⟨K, 1, none⟩ = some (.pointer (some ⟨T, 0, none⟩)) := by
    rw [World.cell?_of_block (Below.heap_alloc w _ K (blk_lt hK))]; exact c1
  have k0 : (w.alloc (.cells #[.string s] 9)).cell? ⟨T, 0, none⟩ = some (.slice A0 n cA) := by
    rw [World.cell?_of_block (Below.heap_alloc w _ T (blk_lt hh))]; exact c0
  have HPV := Aside0.mk (show Buf P (w.drew.alloc (.cells #[.string s] 9)) 9 (.slice A0 n cA) (pw_strs (es ++ rem)) from hp.stays fun k hk => Below.heap_alloc w.drew _ k (hp.lt k hk))
  have HNC := Aside0.mk (show ∀ j u, ([.string s] : List Value)[j]? = some u → (w.drew.alloc (.cells #[.string s] 9)).cell? ((⟨w.heap.size, 0, none⟩ : Addr).add j) = some u from
    World.news_of_block (cs := #[.string s]) (t := 9) (fr := (0, 0)) (heap_alloc_new w.drew _))
  have HPL := Aside0.mk (show Lt P (w.drew.alloc (.cells #[.string s] 9)) from fun k hk => by have := hP k hk; simp [World.alloc]; exact Nat.lt_succ_of_lt this)
  have HSZ := Aside0.mk (show ((pw_strs (es ++ rem)).length + 1) * 16 ≤ 140737488355328 by
    rw [pw_strs_length, List.length_append]
    rcases he with rfl | rfl <;> simp <;> omega)
  have HONE := Aside0.mk (show ∀ u ∈ ([.string s] : List Value), u.oneCell' = true from strs_one [s])
  have HKT := Aside0.mk (show ∀ w2, (w.drew.alloc (.cells #[.string s] 9)).grownBy w2 (Value.slice A0 n cA).ownBlock → w2.heap[T]? = some (.cells #[.slice A0 n cA, .int .i64 rd, ov, .bool fds, .bool false] 73 (0, 0)) from fun w2 hg => by
    have hlT := blk_lt hh
    rw [hg.block T (by simp [World.alloc]; exact Nat.lt_succ_of_lt hlT) (hp.ne hh (by decide)), Below.heap_alloc w.drew _ T hlT]
    exact hh)
  have HKK := Aside0.mk (show ∀ w2, (w.drew.alloc (.cells #[.string s] 9)).grownBy w2 (Value.slice A0 n cA).ownBlock → w2.cell? ⟨K, 1, none⟩ = some (.pointer (some ⟨T, 0, none⟩)) from fun w2 hg => by
    have hlK := blk_lt hK
    rw [World.cell?_of_block (hg.block K (by simp [World.alloc]; exact Nat.lt_succ_of_lt hlK) (hp.ne hK (by decide)))]
    exact k1)
  clear hP hrem hK hT hh he hp ho hn
  go_enter Tryz.func22, Tryz.ntmps22
  go_wp2_with fail
  go_region_law
    ((refine step_append_buf (P := P) (by rfl) _ _ _ 9 (.string ⟨#[]⟩) 16 (by rfl) Tryz.underlying22 info9 rfl (by decide) (.slice A0 n cA) (pw_strs (es ++ rem)) ⟨w.heap.size, 0, none⟩ 1 1 [.string s] (by rfl) (by rfl) HPV.out rfl HNC.out HONE.out HPL.out HSZ.out ?_; intro A1 n1 cB w2 hb2 hg2 hat2; have HB2 := Aside0.mk hb2; have HG2 := Aside0.mk hg2; clear hb2 hg2 hat2; have HH2 := Aside0.mk (HKT.out w2 HG2.out); have hkk1 := blk_cell HH2.out 0; have hkf1 := blk_frozen HH2.out 0; have hkk := HKK.out w2 HG2.out))
  all_goals go_wp2
  all_goals go_end0
  all_goals exact ⟨rfl, HFIN.out _ _ _ _ HB2.out HG2.out⟩

set_option maxRecDepth 100000 in
set_option maxHeartbeats 1000000 in
theorem Sent_calls (K C T : Nat) (x3 : Value) (rem : List ByteArray) (out : List UInt8) (fds : Bool) (hK : w.heap[K]? = some (.cells #[.pointer (some ⟨C, 0, none⟩), .pointer (some ⟨T, 0, none⟩), x3] 62 (0, 0)))
    (hD : Door P w T rem out fds) : Calls Tryz.prog 24 #[.pointer (some ⟨K, 0, none⟩)] w fun e w' => e = .returned (.string ⟨out.toArray⟩) ∧ ∃ v : Value, w' = w.setCell ⟨T, 2, none⟩ v := by
  obtain ⟨pv, rd, ov, hT, hh, _, ho⟩ := hD
  obtain ⟨A0, cA, hv, _, hrb⟩ := Buf.rb (D := fun _ => True) ho (fun _ _ => trivial)
  subst hv
  have kst : (convert 35 9 (.slice A0 out.length cA)).run Tryz.prog w = .ok (.string ⟨out.toArray⟩) w := by
    rw [string_of_reads (P := Tryz.prog) (c := cA) Tryz.underlying35 Tryz.underlying5 Tryz.underlying9 hrb.reads]
    have : strOfNums (ints out) = ⟨out.toArray⟩ := by
      apply ByteArray.ext
      apply Array.ext'
      rw [← Lib.toList_data, Lib.strOfNums_toList, bytesOf_ints]
    rw [this]
  have c1 := blk_cell hK 1
  have c2 := blk_cell hh 2
  have f2 := blk_frozen hh 2
  clear ho hrb hh hT hK
  go_enter Tryz.func24, Tryz.ntmps24
  go_wp2
  go_ret
  exact ⟨rfl, _, rfl⟩
theorem Uuid_calls (K C T : Nat) (x3 : Value) (cc : Array Value) (u : ByteArray) (hK : w.heap[K]? = some (.cells #[.pointer (some ⟨C, 0, none⟩), .pointer (some ⟨T, 0, none⟩), x3] 62 (0, 0))) (hC : w.heap[C]? = some (.cells cc 118 (0, 0))) (h9 : cc[9]? = some (.string u)) :
    Calls Tryz.prog 25 #[.pointer (some ⟨K, 0, none⟩)] w fun e w' => e = .returned (.string u) ∧ w = w' := by
  have c0 := blk_cell hK 0
  have c9 := (blk_cell hC 9).trans h9
  clear hK hC h9
  go_enter Tryz.func25, Tryz.ntmps25
  go_wp2
  go_ret
  exact ⟨rfl, rfl⟩
theorem Fds_calls (C : Nat) (cc : Array Value) (b : Bool) (hC : w.heap[C]? = some (.cells cc 118 (0, 0))) (h8 : cc[8]? = some (.bool b)) :
    Calls Tryz.prog 26 #[.pointer (some ⟨C, 0, none⟩)] w fun e w' => e = .returned (.bool b) ∧ w = w' := by
  have c8 := (blk_cell hC 8).trans h8
  clear hC h8
  go_enter Tryz.func26, Tryz.ntmps26
  go_wp2
  go_ret
  exact ⟨rfl, rfl⟩
end Go.Proofs.YtkmdjpinpjcndaaGreatDoor

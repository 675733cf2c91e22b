/-
  The walks of the generator of serials: made, one serial given, one taken back.
-/
import Derived.Test.YtkmdjpinpjcndaaLocks
import Derived.Test.YtkmdjpinpjcndaaWWords
import Derived.Conc.MuLone
import Derived.Maps.OwnSet
import Derived.WalkKit
import Derived.WalkSpells
import Derived.WalkLawsBesides
import Derived.Outline
import Derived.Handy
namespace Go.Proofs.Ytkmdjpinpjcndaa
open Go.RowKit Go.Proofs.YtkmdjpinpjcndaaW.PrintWords Go.Maps Go.MuLone

theorem law25 : Keyed Try.prog 25 := int_keyed Try.underlying25
theorem zero4 (w : World) : (zeroValue 4).run Try.prog w = .ok (.bool false) w := by kernel_rfl

/-- A look-up in a map of bools that the world owns. -/
theorem look_bool {H : Type} {P : Program} (w : World) {ops : Array Oper} {rest : List Oper} {o : Oper} {a : Act} {Q : Exit → Act → World → Prop}
    (hg : o.guard = none) (m x : Operand) (t : TypeId) (hop : o.op = Op.lookup t m x false)
    (k e : TypeId) (K : Keyed P k) (ht : P.underlying t = some (.map k e)) (he : P.underlying e = some .bool) (hz : (zeroValue e).run P w = .ok (.bool false) w) (b n : Nat) (D : DataW H)
    (hm : a.eval m = .map (some b)) (hown : w.ownsMap P k (plainElem P e) b n D) (key : Value) (kl : Lit) (hx : a.eval x = key) (hkey : keyOf P k key = some kl) (c : Bool)
    (hc : D.atKey kl (.lit (.bool false)) = .lit (.bool c))
    (hK : wpList P ops Q rest (a.put o.dst (.bool c)) w) :
    wpList P ops Q (o :: rest) a w := by
  refine wpList_plain hg fun K' hK' => ?_
  obtain ⟨v, ps, hrun, hv⟩ := hown.lookup K ht hz (plainElem_bool he false) hkey
  rw [hc] at hv
  have hvb : v = .bool c := by
    unfold plainElem at hv
    rw [he] at hv
    cases v <;> simp at hv
    rw [hv.1]
  subst hvb
  unfold Oper.wp
  simp [execOp, hop, hm, hx, hrun, Result.andThen]
  exact hK' _ _ hK

/-- A generator of serials in block G, its map in block M: the next serial is m, and no serial from m on is marked as used. -/
def Gen (w : World) (B G M m : Nat) : Prop :=
  B ≤ G ∧ B ≤ M ∧ M ≠ G ∧ w.heap[G]? = some (.cells #[.int .i32 0, .int .u32 0, .int .u32 m, .map (some M)] 39 (0, 0)) ∧
    ∃ (n : Nat) (D : DataW Unit), w.ownsMap Try.prog 25 (plainElem Try.prog 4) M n D ∧ n ≤ m ∧ ∀ j : Nat, m ≤ j → j < 4294967296 → D.atKey (.int .u32 j) (.lit (.bool false)) = .lit (.bool false)

theorem wf_u32 (j : Nat) (h : j < 4294967296) : (Lit.int .u32 (j : Int)).wf = true := by
  have h1 : IntKind.u32.min = 0 := rfl
  have h2 : IntKind.u32.max = 4294967295 := rfl
  simp only [Lit.wf, Bool.and_eq_true, decide_eq_true_eq]
  omega

/-- Nothing but the generator has turned, and no block is new. -/
structure OnlyGen (G M : Nat) (w w' : World) : Prop where mk :: (out : w'.os = w.os ∧ w'.tape = w.tape ∧ w'.output = w.output ∧ w'.heap.size = w.heap.size ∧ ∀ k, k ≠ G → k ≠ M → w'.heap[k]? = w.heap[k]?)

set_option maxRecDepth 100000 in
theorem newGen_calls (w : World) :
    Calls Try.prog 6 #[] w fun e w' => ∃ G M, e = .returned (.pointer (some ⟨G, 0, none⟩)) ∧ Gen w' w.heap.size G M 1 ∧ Below w.heap.size w w' := by
  have hmm := @run_makeMap Try.prog
  have hown0 := World.ownsMap_made (H := Unit) w Try.prog 25 (plainElem Try.prog 4)
  obtain ⟨w1, hrun, hown1, hturn⟩ := hown0.store law25 Try.underlying31 (by decide) (keyOf_int_mk (a := (0 : Int)) Try.underlying25 (wf_u32 0 (by decide))) (plainElem_bool Try.underlying4 true)
  have HO := Aside0.mk hown1
  have HT := Aside0.mk hturn
  clear hown0 hown1 hturn
  go_enter Try.func6, Try.ntmps6
  go_wp2
  go_ret
  have hsz : w1.heap.size = w.heap.size + 1 := by
    obtain ⟨es, clock, es', clock', hb, he⟩ := HT.out
    rw [he]
    simp [ChangeMaps.setBlock]
  refine ⟨w1.heap.size, w.heap.size, rfl, ⟨by omega, Nat.le_refl _, by omega, ?_, 1, (DataW.map []).put (.int .u32 0) (.lit (.bool true)), HO.out.alloc _, Nat.le_refl _, ?_⟩, ?_⟩
  · exact heap_alloc_new w1 _
  · intro j hj hj2
    rw [atKey_put_other (by intro e; injection e with e1 e2; omega)]
    rfl
  · refine Below.alloc ?_ (by omega) _
    have hb1 := (Below.refl w.heap.size w).alloc (Nat.le_refl _) (.map #[] 0)
    exact hb1.grown HT.out.grown (by simp) (fun k hk => by injection hk with hk; omega)

theorem gen_kept {w w1 : World} {G M : Nat} {o : Obj} (hne : M ≠ G) (ht : w.mapTurned w1 M) (hh : w.heap[G]? = some o) : w1.heap[G]? = some o := by
  rw [ht.grown.block G (Array.getElem?_eq_some_iff.1 hh).1 (fun e => hne (Option.some.inj e).symm)]
  exact hh

set_option maxRecDepth 100000 in
set_option maxHeartbeats 1600000 in
theorem get_calls (B G M m : Nat) (w : World) (hg : Gen w B G M m) (h1 : 1 ≤ m) (hm : m ≤ 5000) :
    Calls Try.prog 7 #[.pointer (some ⟨G, 0, none⟩)] w fun e w' => e = .returned (.int .u32 m) ∧ Gen w' B G M (m + 1) ∧ OnlyGen G M w w' := by
  obtain ⟨hG, hM, hne, hh, n, D, hown, hn, hD⟩ := hg
  have c0 : w.cell? ⟨G, 0, none⟩ = some (.int .i32 0) := by rw [Lib.cell_of_heap hh]; rfl
  have c2 : w.cell? ⟨G, 2, none⟩ = some (.int .u32 m) := by rw [Lib.cell_of_heap hh]; rfl
  have c3 : w.cell? ⟨G, 3, none⟩ = some (.map (some M)) := by rw [Lib.cell_of_heap hh]; rfl
  have f0 : w.frozen? ⟨G, 0, none⟩ = false := Lib.frozen_of_heap hh 0
  have f2 : w.frozen? ⟨G, 2, none⟩ = false := Lib.frozen_of_heap hh 2
  have HH := Aside0.mk hh
  have HOWN := Aside0.mk hown
  have HD := Aside0.mk hD
  have HNE := Aside0.mk hne
  have HB := Aside0.mk (And.intro hG hM)
  have hkey := Aside0.mk (keyOf_int_mk Try.underlying25 (wf_u32 m (by omega)))
  clear hh hown hD hne hG hM
  go_enter_defers Try.func7, Try.ntmps7
  go_wp2_with (first
    | (go_at_call 9; refine (lock_free Try.muLib ⟨G, 0, none⟩ _ c0 f0).mono ?_; rintro e w' ⟨rfl, rfl⟩))
  have HO1 := Aside0.mk (HOWN.out.setCell (a := ⟨G, 0, none⟩) HNE.out (.int .i32 1))
  have HS1 := Aside0.mk (heap_setCell_same w G 0 _ 39 (.int .i32 1) HH.out)
  refine wp_loop_rounds 1 ?_
  rw [rounds_succ]
  go_wp2_with (first
    | (at_lookup; refine look_bool _ rfl (.tmp 18) (.tmp 19) 31 rfl 25 4 law25 Try.underlying31 Try.underlying4 (zero4 _) M n D rfl HO1.out _ (.int .u32 m) rfl hkey.out false (HD.out m (Nat.le_refl _) (by omega)) ?_)
    | (at_mapUpdate; refine wpList_mapUpdate_in _ rfl _ _ _ 31 rfl 25 4 law25 Try.underlying31 _ M n D rfl HO1.out (by unfold maxLen; omega) _ _ _ rfl rfl hkey.out _ [] (plainElem_bool Try.underlying4 true) ?_; intro w1 hown2 hturn1; have HO2 := Aside0.mk hown2; have HT2 := Aside0.mk hturn1; clear hown2 hturn1; have HG1 := Aside0.mk (gen_kept HNE.out HT2.out HS1.out); have d0 := Lib.cell_of_heap HG1.out 0; have d2 := Lib.cell_of_heap HG1.out 2; have e2 := Lib.frozen_of_heap HG1.out 2; have e0 := Lib.frozen_of_heap HG1.out 0))
  have HS2 := Aside0.mk (heap_setCell_same w1 G 2 _ 39 (.int .u32 ((m : Int) + 1)) HG1.out)
  have HS3 := Aside0.mk (heap_setCell_same _ G 0 _ 39 (.int .i32 0) HS2.out)
  refine leaves_cons (f := 10) (args := #[.pointer (some ⟨G, 0, none⟩)]) (by simp) (by simp [go_sem]) ?_
  refine (unlock_deferred Try.muLib ⟨G, 0, none⟩ .returning _ ?_ ?_).mono ?_
  · rw [Lib.cell_of_heap HS2.out]; rfl
  · exact Lib.frozen_of_heap HS2.out 0
  rintro e u' w'' ⟨rfl, rfl, rfl⟩
  refine ⟨_, results_tmp rfl _ _ _, rfl, ⟨HB.out.1, HB.out.2, HNE.out, ?_, n + 1, D.put (.int .u32 (m : Int)) (.lit (.bool true)), ?_, by omega, ?_⟩, ⟨?_, ?_, ?_, ?_, ?_⟩⟩
  · rw [HS3.out]
    simp
  · exact (HO2.out.setCell (a := ⟨G, 2, none⟩) HNE.out _).setCell (a := ⟨G, 0, none⟩) HNE.out _
  · intro j hj hj2
    rw [atKey_put_other (by intro e; injection e with e1 e2; omega)]
    exact HD.out j (by omega) hj2
  · obtain ⟨es, clock, es', clock', hb, he⟩ := HT2.out
    rw [he]; rfl
  · obtain ⟨es, clock, es', clock', hb, he⟩ := HT2.out
    rw [he]; rfl
  · obtain ⟨es, clock, es', clock', hb, he⟩ := HT2.out
    rw [he]; rfl
  · obtain ⟨es, clock, es', clock', hb, he⟩ := HT2.out
    rw [he]
    simp [World.setCell, ChangeMaps.setBlock]
  · intro k hk1 hk2
    rw [RowKit.Below.heap_setCell _ _ _ _ hk1, RowKit.Below.heap_setCell _ _ _ _ hk1]
    obtain ⟨es, clock, es', clock', hb, he⟩ := HT2.out
    rw [he, ChangeMaps.heap_setBlock_other hb _ hk2, RowKit.Below.heap_setCell _ _ _ _ hk1]
theorem gen_of_cells {w : World} {B G M m : Nat} (hg : Gen w B G M m) : w.cell? ⟨G, 0, none⟩ = some (.int .i32 0) ∧ w.cell? ⟨G, 3, none⟩ = some (.map (some M)) ∧ w.frozen? ⟨G, 0, none⟩ = false := by
  obtain ⟨_, _, _, hh, _⟩ := hg
  exact ⟨by rw [Lib.cell_of_heap hh]; rfl, by rw [Lib.cell_of_heap hh]; rfl, Lib.frozen_of_heap hh 0⟩

theorem keep_del (D : DataW Unit) (b j : Nat) (h : D.atKey (.int .u32 (j : Int)) (.lit (.bool false)) = .lit (.bool false)) : (D.del (.int .u32 (b : Int))).atKey (.int .u32 (j : Int)) (.lit (.bool false)) = .lit (.bool false) := by
  by_cases e : (Lit.int .u32 (j : Int)) = Lit.int .u32 (b : Int)
  · rw [e]; exact atKey_del_same _
  · rw [atKey_del_other e]; exact h

set_option maxRecDepth 100000 in
set_option maxHeartbeats 1600000 in
theorem retire_calls (B G M m x : Nat) (w : World) (hg : Gen w B G M m) (hx : x < 4294967296) :
    Calls Try.prog 8 #[.pointer (some ⟨G, 0, none⟩), .int .u32 x] w fun e w' => e = .returned (.tuple #[]) ∧ Gen w' B G M m ∧ OnlyGen G M w w' := by
  obtain ⟨c0, c3, f0⟩ := gen_of_cells hg
  obtain ⟨hG, hM, hne, hh, n, D, hown, hn, hD⟩ := hg
  have HH := Aside0.mk hh
  have HOWN := Aside0.mk hown
  have HD := Aside0.mk hD
  have HNE := Aside0.mk hne
  have HB := Aside0.mk (And.intro hG hM)
  have hkey := Aside0.mk (keyOf_int_mk Try.underlying25 (wf_u32 x hx))
  have HN := Aside0.mk hn
  clear hh hown hD hne hG hM hn
  have HO1 := Aside0.mk (HOWN.out.setCell (a := ⟨G, 0, none⟩) HNE.out (.int .i32 1))
  have HS1 := Aside0.mk (heap_setCell_same w G 0 _ 39 (.int .i32 1) HH.out)
  go_enter_defers Try.func8, Try.ntmps8
  go_wp2_with (first
    | (go_at_call 9; refine (lock_free Try.muLib ⟨G, 0, none⟩ _ c0 f0).mono ?_; rintro e w' ⟨rfl, rfl⟩)
    | (at_delete; refine wpList_delete_own _ rfl _ _ 31 25 rfl 4 law25 Try.underlying31 _ M n D rfl HO1.out _ _ rfl hkey.out ?_; intro w1 hown2 hturn1; have HO2 := Aside0.mk hown2; have HT2 := Aside0.mk hturn1; clear hown2 hturn1))
  have HG1 := Aside0.mk (gen_kept HNE.out HT2.out HS1.out)
  have HS3 := Aside0.mk (heap_setCell_same _ G 0 _ 39 (.int .i32 0) HG1.out)
  refine leaves_cons (f := 10) (args := #[.pointer (some ⟨G, 0, none⟩)]) (by simp) (by simp [go_sem]) ?_
  refine (unlock_deferred Try.muLib ⟨G, 0, none⟩ .returning _ ?_ ?_).mono ?_
  · rw [Lib.cell_of_heap HG1.out]; rfl
  · exact Lib.frozen_of_heap HG1.out 0
  rintro e u' w'' ⟨rfl, rfl, rfl⟩
  refine ⟨_, results_none rfl _ _ _, rfl, ⟨HB.out.1, HB.out.2, HNE.out, ?_, n, D.del (.int .u32 (x : Int)), ?_, HN.out, ?_⟩, ⟨?_, ?_, ?_, ?_, ?_⟩⟩
  · rw [HS3.out]
    simp
  · exact HO2.out.setCell (a := ⟨G, 0, none⟩) HNE.out _
  · intro j hj hj2
    exact keep_del D x j (HD.out j hj hj2)
  · obtain ⟨es, clock, es', clock', hb, he⟩ := HT2.out
    rw [he]; rfl
  · obtain ⟨es, clock, es', clock', hb, he⟩ := HT2.out
    rw [he]; rfl
  · obtain ⟨es, clock, es', clock', hb, he⟩ := HT2.out
    rw [he]; rfl
  · obtain ⟨es, clock, es', clock', hb, he⟩ := HT2.out
    rw [he]
    simp [World.setCell, ChangeMaps.setBlock]
  · intro k hk1 hk2
    rw [RowKit.Below.heap_setCell _ _ _ _ hk1]
    obtain ⟨es, clock, es', clock', hb, he⟩ := HT2.out
    rw [he, ChangeMaps.heap_setBlock_other hb _ hk2, RowKit.Below.heap_setCell _ _ _ _ hk1]
end Go.Proofs.Ytkmdjpinpjcndaa

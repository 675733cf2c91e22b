/-
  FnCnNumbers: whatever the count and the serials that are given back, the generator gives 1, 2, 3 and so on, so the statement's function returns true and leaves its arguments as they were.
  No condition beyond the row's own.
-/
import Derived.Test.YtkmdjpinpjcndaaRows
import Derived.Test.YtkmdjpinpjcndaaLaw
import Derived.ProofKit
import Derived.OpenShut
import Derived.SizedLaws
namespace Go.Proofs.Ytkmdjpinpjcndaa
open Go.ChangeShapes Go.WideShapes Go.ChangeAt Go.RowKit Go.Proofs.YtkmdjpinpjcndaaW.PrintWords

theorem own : ownKnob Try.prog.godebug = none := by kernel_rfl
theorem laidOut : laidOutB Try.prog = true := by kernel_rfl
theorem cells25 : Try.prog.cellsOf 25 = 1 := by kernel_rfl

set_option maxRecDepth 100000 in
theorem lifted (os : Os) (started : os.Started) (H : Type) (enc : TypeId × Value → H) :
    ReturnsInHanded {} Try.checked os 3 .any (Rows.fnCnNumbersSpec.pre6 enc Try.prog Try.f3 Rows.fnCnNumbersRow.domain false) (Rows.fnCnNumbersSpec.post enc Try.prog Try.f3 false true false false) := by
  refine returnsInHanded_of_change_sized (C := Try.checked) own started (by kernel_rfl) Try.func3
    (ChangeSpec.witness6 (enc := enc) (C := Try.checked) false ⟨#[], #[.int .u16 0, .slice none 0 0], []⟩ 8 (by kernel_rfl) (by kernel_rfl) (by kernel_rfl) (by kernel_rfl)) ?_
  intro W base args ds gs before hval0 hW _ hsz0 _
  have hval : ∀ (j : Nat) t v, Try.f3.params[j]? = some t → args[j]? = some v → Value.okWide Try.prog W .any base t v := hval0
  have hW' := hW
  obtain ⟨p, q, hA0, hV, rfl, _, _⟩ := hW
  have hA : DataW.TrodAll enc Try.prog W 0 (fun _ => true) true Try.f3.params.toList args.toList ds p := hA0
  rw [Try.params3] at hA hval
  obtain ⟨v0, v1, d0, d1, p0, p1, rfl, rfl, rfl, h0, h1⟩ := trodAll_two hA
  obtain ⟨rfl, rfl⟩ := trodVars_none hV
  have h0k := h0
  have h1k := h1
  obtain ⟨x, rfl, rfl, rfl, wx⟩ := open_int Try.underlying22 (hval 0 22 v0 rfl rfl) h0
  obtain ⟨a0, len, cap, rfl⟩ := okWide_slice Try.underlying23 (hval 1 23 v1 rfl rfl)
  obtain ⟨fuel, hf⟩ := h1
  clear hA0 hval0
  simp only [List.append_nil, List.nil_append] at hW'
  have hlt : ∀ x ∈ p1, x.block < W.heap.size := fun x hx => by simpa using hW'.lt x (by simpa using hx)
  have hxr : 0 ≤ x ∧ x ≤ 65535 := bounds_u16 wx
  obtain ⟨n, rfl⟩ := Int.eq_ofNat_of_zero_le hxr.1
  have hread : ∃ xs, ReadsInt W .u32 a0 len xs ∧ ∀ j, j < len → ∃ x : Nat, xs.getD j 0 = x ∧ x < 4294967296 := by
    rcases open_ints Try.underlying23 Try.underlying25 cells25 hf with ⟨hcs, hx⟩ | ⟨a, len', cap', zs, hcs, _, hl, hm, hz, hx, hcell, hwz⟩
    · simp [Value.cells] at hcs
      obtain ⟨rfl, rfl, rfl⟩ := hcs
      exact ⟨[], ReadsInt.nil W .u32, fun j hj => by omega⟩
    · simp [Value.cells] at hcs
      obtain ⟨rfl, rfl, rfl⟩ := hcs
      simp only [if_true] at hz
      have hmm : cap ≤ 9223372036854775807 := hm
      have hg : ∀ j, j < len → (zs.take len).getD j 0 = zs.getD j 0 := fun j hj => by simp [List.getD_eq_getElem?_getD, hj]
      refine ⟨zs.take len, ⟨by rw [List.length_take]; omega, by omega, fun _ => ⟨a, rfl, fun j hj => ?_⟩⟩, fun j hj => ?_⟩
      · rw [hg j hj]; exact hcell j (by omega)
      · rw [hg j hj]
        have hb := bounds_u32 (hwz (zs.getD j 0) (by
          rw [List.getD_eq_getElem?_getD, List.getElem?_eq_getElem (by omega : j < zs.length)]
          exact List.getElem_mem _))
        obtain ⟨y, hy⟩ := Int.eq_ofNat_of_zero_le hb.1
        exact ⟨y, hy, by omega⟩
  obtain ⟨xs, hr, hx⟩ := hread
  refine (FnCnNumbers_calls n (by omega) a0 len cap xs W hr hx).mono fun e W' ⟨he, hb⟩ => ?_
  subst he
  refine ⟨_, rfl, _, _, _, [], [] ++ p1, [], hW', ?_, ?_, rfl, hb.frame _, fun h => by cases h⟩
  · exact trodAll_mk1 (shut_bool Try.underlying4 true)
  · exact trodAll_mk2 (shut_int Try.underlying22 wx) (Below.trod laidOut (by kernel_rfl) (of_decide_eq_true (by kernel_rfl)) h1k hb hlt)

theorem said : Rows.FnCnNumbersSaid :=
  OpenClaim.holds_of_wide 3 Try.f3 rfl rfl rfl rfl rfl rfl rfl ⟨rfl, rfl, rfl, rfl, rfl⟩ rfl rfl rfl rfl rfl (by kernel_rfl) Try.func3 (by kernel_rfl)
    (of_decide_eq_true (by kernel_rfl)) (by unfold Func.isWrapper; first | (rw [if_pos (by decide +kernel)]; kernel_rfl) | (rw [if_neg (by decide +kernel)]; exact ⟨rfl, rfl⟩))
    (fun os started H enc _ => lifted os started H enc)
#print axioms said
end Go.Proofs.Ytkmdjpinpjcndaa

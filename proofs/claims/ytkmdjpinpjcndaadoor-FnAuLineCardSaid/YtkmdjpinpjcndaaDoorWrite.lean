/-
  The walk of the function that writes a line, over a buffer: words with blanks between them, a carriage return and a line feed.
-/
import Derived.Test.YtkmdjpinpjcndaaDoorShelf
import Derived.Test.YtkmdjpinpjcndaaDoorFits
import Derived.Handy
namespace Go.Proofs.YtkmdjpinpjcndaaDoor
open Go.RowKit Go.Proofs.YtkmdjpinpjcndaaDoorW.PrintWords

/-- The operation is a builtin over these places. -/
theorem gate_builtin {P : Program} {ops : Array Oper} {rest : List Oper} {o : Oper} {a : Act} {Q : Exit → Act → World → Prop} {W : World} {b : Builtin} {xs : Array Operand} {ts : Array TypeId} (_ho : o.op = .call { callee := .builtin b, args := xs, argTypes := ts }) (h : wpList P ops Q (o :: rest) a W) : wpList P ops Q (o :: rest) a W := h

/-- A slice of slices of bytes that is read. -/
def ReadsBB (w : World) (A : Option Addr) (n : Nat) (ws : List (List UInt8)) : Prop :=
  ws.length = n ∧ n ≤ 9223372036854775807 ∧ ∀ (j : Nat) (hj : j < ws.length), ∃ ad Aj cj, A = some ad ∧ w.cell? (ad.add j) = some (.slice Aj (ws[j]).length cj) ∧ ReadsInt w .u8 Aj (ws[j]).length (ints ws[j])
theorem ReadsBB.below {w w1 : World} {A : Option Addr} {n : Nat} {ws : List (List UInt8)} (h : ReadsBB w A n ws) (hb : Below w.heap.size w w1) : ReadsBB w1 A n ws :=
  ⟨h.1, h.2.1, fun j hj => by
    obtain ⟨ad, Aj, cj, e, hc, hr⟩ := h.2.2 j hj
    exact ⟨ad, Aj, cj, e, pw_cell_below hb hc, hr.below hb⟩⟩

theorem info5 : (Tryd.prog.info? 5).map (fun i => (i.zero, i.size, i.bytes)) = some (some (.int .u8 0), 1, 1) := by kernel_rfl
theorem info26 : (Tryd.prog.info? 26).map (fun i => (i.zero, i.size, i.bytes)) = some (some (.slice none 0 0), 1, 24) := by kernel_rfl

theorem buffer_below {B b : Nat} {bs : List Value} {w w1 : World} (h : Lib.IsBuffer 30 5 B b bs w) (hb : Below w.heap.size w w1) : Lib.IsBuffer 30 5 B b bs w1 := by
  have hlt := h.lt
  obtain ⟨hB, v, lr, hh, ho, hne⟩ := h
  exact ⟨hB, v, lr, by rw [hb.block b hlt]; exact hh, pw_own_below ho hb, hne⟩

theorem makeZero : ∀ W : World, (Instr.makeSlice 26 (.int .i64 0) (.int .i64 0)).run Tryd.prog W = .ok (.slice (some ⟨W.heap.size, 0, none⟩) 0 0) (W.alloc (.cells (madeCells #[.int .u8 0] 0) 5)) :=
  print_make (P := Tryd.prog) 26 5 .u8 1 Tryd.underlying26 info5 (by decide) 0 (by decide)

set_option maxRecDepth 100000 in
set_option maxHeartbeats 1000000 in
theorem authWriteLine_calls (B b : Nat) (A : Option Addr) (n c : Nat) (ws : List (List UInt8)) (w : World) (hbuf : Lib.IsBuffer 30 5 B b [] w) (hB : B ≤ w.heap.size) (hr : ReadsBB w A n ws) (hlim : total ws ≤ 1000000) :
    Calls Tryd.prog 8 #[.iface 35 (.pointer (some ⟨b, 0, none⟩)), .slice A n c] w fun e w' => e = .returned .nilIface ∧ Lib.IsBuffer 30 5 B b (Lib.byteCells (sp ws ++ [13, 10])) w' ∧ Below B w w' := by
  have HL := Aside0.mk hr.1
  have HM := hr.2.1
  have HR := Aside0.mk hr
  have HBUF := Aside0.mk hbuf
  have HLIM := Aside0.mk hlim
  clear hr hbuf hlim
  have kmk := makeZero
  go_enter Tryd.func8, Tryd.ntmps8
  go_wp2
  go_loopg [5, 13] n (fun q v5 v13 w' => ∃ k : Nat, k ≤ n ∧ Aside0 (q = n - k) ∧ v13 = .int .i64 k ∧ Aside0 (w'.ownsRow w.heap.size 5 1 v5 (ints (lineTo ws k)).length (nums .u8 (ints (lineTo ws k)))) ∧ Aside0 (Below w.heap.size w w'))
  case atStart =>
    refine ⟨0, by omega, ⟨rfl⟩, rfl, ⟨?_⟩, ⟨?_⟩⟩
    · rw [lineTo_zero]
      exact own_made (w : World) w.heap.size 5 .u8 0 (Nat.le_refl _) (by omega)
    · exact (Below.refl _ _).alloc (Nat.le_refl _) _
  case round =>
    obtain ⟨k, hk, HQ, rfl, HO, HB⟩ := hrel
    by_cases hlt : k < n
    · have hkw : k < ws.length := by rw [HL.out]; exact hlt
      obtain ⟨ad, Aj, cj, rfl, hcell, hrj⟩ := (HR.out.below HB.out).2.2 k hkw
      have HRJ := Aside0.mk hrj
      have HLN := Aside0.mk (lineTo_length_at ws k hkw)
      clear hrj
      by_cases hl : k + 1 < n
      · have hne : ((k : Int) != (n : Int) - 1) = true := by rw [bne_iff_ne]; omega
        go_wp2_with (first
          | ((with_reducible refine gate_builtin (b := .append) (xs := #[.tmp 18, .tmp 19]) rfl ?_); at_builtin; refine print_append_row (w0 := w) w.heap.size rfl (.tmp 18) (.tmp 19) 26 5 .u8 1 rfl Tryd.underlying26 info5 (by decide) u5 (ints (lineTo ws k)) (ints ws[k]) Aj (ws[k]).length cj rfl rfl HO.out HRJ.out HB.out ?r1 ?r2 ?_; (case r1 => exact HB.out.size); (case r2 => have := HLN.out; have := HLIM.out; rw [ints_length]; omega); intro v1 w1 ho hb hg hat; rw [← ints_append] at ho; have HO1 := Aside0.mk ho; have HB1 := Aside0.mk hb; clear ho hb hg hat HO HB HRJ)
          | ((with_reducible refine gate_builtin (b := .append) (xs := #[.tmp 26, .tmp 27]) rfl ?_); at_builtin; refine print_append_num (w0 := w) w.heap.size rfl (.tmp 26) (.tmp 27) 26 5 .u8 1 rfl Tryd.underlying26 info5 (by decide) v1 (ints (lineTo ws k ++ ws[k])) 32 rfl rfl HO1.out HB1.out ?s1 ?s2 ?_; (case s1 => exact HB1.out.size); (case s2 => have := HLN.out; have := HLIM.out; rw [ints_length, List.length_append]; omega); intro v2 w2 ho hb hg hat; have HO2 := Aside0.mk ho; have HB2 := Aside0.mk hb; clear ho hb hg hat HO1 HB1))
        go_roundg (n - (k+1))
        case measure => have := HQ.out; omega
        case rel => exact ⟨k+1, by omega, ⟨rfl⟩, by go_num, ⟨by rw [lineTo_mid ws k (by rw [HL.out]; exact hl), ints_append]; exact HO2.out⟩, HB2⟩
      · have hne : ((k : Int) != (n : Int) - 1) = false := by rw [bne_eq_false_iff_eq]; omega
        go_wp2_with (first
          | ((with_reducible refine gate_builtin (b := .append) (xs := #[.tmp 18, .tmp 19]) rfl ?_); at_builtin; refine print_append_row (w0 := w) w.heap.size rfl (.tmp 18) (.tmp 19) 26 5 .u8 1 rfl Tryd.underlying26 info5 (by decide) u5 (ints (lineTo ws k)) (ints ws[k]) Aj (ws[k]).length cj rfl rfl HO.out HRJ.out HB.out ?r1 ?r2 ?_; (case r1 => exact HB.out.size); (case r2 => have := HLN.out; have := HLIM.out; rw [ints_length]; omega); intro v1 w1 ho hb hg hat; rw [← ints_append] at ho; have HO1 := Aside0.mk ho; have HB1 := Aside0.mk hb; clear ho hb hg hat HO HB HRJ))
        go_roundg (n - (k+1))
        case measure => have := HQ.out; omega
        case rel => exact ⟨k+1, by omega, ⟨rfl⟩, by go_num, ⟨by rw [lineTo_last ws k hkw (by rw [HL.out]; exact hl)]; exact HO1.out⟩, HB1⟩
    · have hf := Aside0.mk (lineTo_all ws k (by rw [HL.out]; exact hlt))
      rw [hf.out] at HO
      have HTL := Aside0.mk (sp_length ws)
      clear HR
      go_wp2_with (first
          | ((with_reducible refine gate_builtin (b := .append) (xs := #[.tmp 30, .tmp 31]) rfl ?_); at_builtin; refine print_append_num (w0 := w) w.heap.size rfl (.tmp 30) (.tmp 31) 26 5 .u8 1 rfl Tryd.underlying26 info5 (by decide) u5 (ints (sp ws)) 13 rfl rfl HO.out HB.out ?s1 ?s2 ?_; (case s1 => exact HB.out.size); (case s2 => have := HTL.out; have := HLIM.out; rw [ints_length]; omega); intro v1 w1 ho hb hg hat; have HO1 := Aside0.mk ho; have HB1 := Aside0.mk hb; clear ho hb hg hat HO HB)
          | ((with_reducible refine gate_builtin (b := .append) (xs := #[.tmp 33, .tmp 34]) rfl ?_); at_builtin; refine print_append_num (w0 := w) w.heap.size rfl (.tmp 33) (.tmp 34) 26 5 .u8 1 rfl Tryd.underlying26 info5 (by decide) v1 (ints (sp ws) ++ [13]) 10 rfl rfl HO1.out HB1.out ?t1 ?t2 ?_; (case t1 => exact HB1.out.size); (case t2 => have := HTL.out; have := HLIM.out; rw [List.length_append, ints_length]; simp only [List.length_cons, List.length_nil]; omega); intro v2 w2 ho hb hg hat; have HO2 := Aside0.mk ho; have HB2 := Aside0.mk hb; clear ho hb hg hat HO1 HB1))
      have hlen : (ints (sp ws) ++ [13] ++ [10]).length = (sp ws ++ [13, 10]).length := by simp [ints]
      have hnum : nums .u8 (ints (sp ws) ++ [13] ++ [10]) = Lib.byteCells (sp ws ++ [13, 10]) := by rw [← nums_ints]; simp [ints]
      have ho := HO2.out
      rw [hnum, hlen] at ho
      obtain ⟨g, cap, hv, hg1, hg2⟩ := ho.form (by simp)
      rw [hv] at ho
      rw [hv]
      have hblt := HBUF.out.lt
      refine (Tryd.Buffer_Write_any B b [] (Lib.byteCells (sp ws ++ [13, 10])) ⟨g, 0, none⟩ _ cap w2 (buffer_below HBUF.out HB2.out) (Nat.le_trans hB HB2.out.size) (by simp) (Lib.byteCells_length _) ?_ ?_ (Lib.byteCells_one _) ?_).mono ?_
      · have := own_base ho g rfl
        show g ≠ b
        omega
      · exact fun j v hj => ho.cells (g := g) rfl j v hj
      · have := HTL.out
        have := HLIM.out
        rw [List.length_append]
        simp only [List.length_cons, List.length_nil]
        omega
      rintro e w3 ⟨rfl, hb3, hbel, -⟩
      have HB3 := Aside0.mk hb3
      have HBEL := Aside0.mk (show Below B w w3 from (HB2.out.mono hB).trans hbel)
      clear hb3 hbel ho hv hg1 hg2 hlen hnum HO2 HB2 hblt
      go_wp2
      go_ret
      exact ⟨rfl, by simpa using HB3.out, HBEL.out⟩
end Go.Proofs.YtkmdjpinpjcndaaDoor

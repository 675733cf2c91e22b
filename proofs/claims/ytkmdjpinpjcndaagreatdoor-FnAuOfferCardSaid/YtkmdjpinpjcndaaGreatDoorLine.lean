/-
  A line written to the peer: words with blanks between them, a carriage return and a line feed.
-/
import Derived.Test.YtkmdjpinpjcndaaGreatDoorWrite
namespace Go.Proofs.YtkmdjpinpjcndaaGreatDoor
open Go.RowKit Go.Proofs.YtkmdjpinpjcndaaGreatDoorW.PrintWords
variable {P D : Nat → Prop} {w w1 w2 : World}

set_option maxRecDepth 100000 in
set_option maxHeartbeats 1000000 in
theorem authWriteLine_calls (T : Nat) (rem : List ByteArray) (out : List UInt8) (fds : Bool) (A : Option Addr) (n c : Nat) (ws : List (List UInt8)) (hD : Door P w T rem out fds) (hP : Lt P w) (hr : RW D w A ws) (hLD : Lt D w) (hn : ws.length = n) (hlim : total ws ≤ 1000000) (hout : out.length ≤ 100000000) :
    Calls Tryz.prog 49 #[.iface 59 (.pointer (some ⟨T, 0, none⟩)), .slice A n c] w fun e w' => e = .returned .nilIface ∧ Door P w' T rem (out ++ (sp ws ++ [13, 10])) fds ∧ Fix P w w' := by
  have HL := Aside0.mk hn
  have HM : n ≤ 9223372036854775807 := hn ▸ hr.small
  have HR := Aside0.mk hr
  have HDO := Aside0.mk hD
  have HLIM := Aside0.mk hlim
  have HOUT := Aside0.mk hout
  have HP := Aside0.mk hP
  have HLD := Aside0.mk hLD
  clear hr hD hlim hout hP hLD hn
  have kmk := makeZero
  go_enter Tryz.func49, Tryz.ntmps49
  go_wp2
  go_loopg [5, 13] n (fun q v5 v13 w' => ∃ k : Nat, k ≤ n ∧ Aside0 (q = n - k) ∧ v13 = .int .i64 k ∧ Aside0 (w'.ownsRow w.heap.size 5 1 v5 (ints (lineTo ws k)).length (nums .u8 (ints (lineTo ws k)))) ∧ Aside0 (Below w.heap.size w w'))
  case atStart =>
    refine ⟨0, by omega, ⟨rfl⟩, rfl, ⟨?_⟩, ⟨?_⟩⟩
    · rw [lineTo_zero]
      exact own_made (w : World) w.heap.size 5 .u8 0 (Nat.le_refl _) (by omega)
    · exact (Below.refl _ _).alloc (Nat.le_refl _) _
  case round =>
    obtain ⟨k, hk, HQ, rfl, HO, HB⟩ := hrel
    by_cases hlt : k < n
    · have hkw : k < ws.length := by rw [HL.out]; exact hlt
      obtain ⟨b, o, Aj, cj, rfl, hDb, hcell0, hrj⟩ := HR.out.cells k hkw
      have hcell : wr.cell? ⟨b, o + k, none⟩ = some (.slice Aj (ws[k]).length cj) := by
        rw [HB.out.cell (HLD.out b hDb)]; exact hcell0
      have HRJ := Aside0.mk (hrj.fix (Fix.ofBelow HB.out HLD.out)).reads
      have HLN := Aside0.mk (lineTo_length_at ws k hkw)
      clear hrj hcell0 hDb
      by_cases hl : k + 1 < n
      · have hne : ((k : Int) != (n : Int) - 1) = true := by rw [bne_iff_ne]; omega
        go_wp2_with (first
          | ((with_reducible refine gate_builtin (b := .append) (xs := #[.tmp 18, .tmp 19]) rfl ?_); at_builtin; refine print_append_row (w0 := w) w.heap.size rfl (.tmp 18) (.tmp 19) 35 5 .u8 1 rfl Tryz.underlying35 info5 (by decide) u5 (ints (lineTo ws k)) (ints ws[k]) Aj (ws[k]).length cj rfl rfl HO.out HRJ.out HB.out ?r1 ?r2 ?_; (case r1 => exact HB.out.size); (case r2 => have := HLN.out; have := HLIM.out; rw [ints_length]; omega); intro v1 w1 ho hb hg hat; rw [← ints_append] at ho; have HO1 := Aside0.mk ho; have HB1 := Aside0.mk hb; clear ho hb hg hat HO HB HRJ)
          | ((with_reducible refine gate_builtin (b := .append) (xs := #[.tmp 26, .tmp 27]) rfl ?_); at_builtin; refine print_append_num (w0 := w) w.heap.size rfl (.tmp 26) (.tmp 27) 35 5 .u8 1 rfl Tryz.underlying35 info5 (by decide) v1 (ints (lineTo ws k ++ ws[k])) 32 rfl rfl HO1.out HB1.out ?s1 ?s2 ?_; (case s1 => exact HB1.out.size); (case s2 => have := HLN.out; have := HLIM.out; rw [ints_length, List.length_append]; omega); intro v2 w2 ho hb hg hat; have HO2 := Aside0.mk ho; have HB2 := Aside0.mk hb; clear ho hb hg hat HO1 HB1))
        go_roundg (n - (k+1))
        case measure => have := HQ.out; omega
        case rel => exact ⟨k+1, by omega, ⟨rfl⟩, by go_num, ⟨by rw [lineTo_mid ws k (by rw [HL.out]; exact hl), ints_append]; exact HO2.out⟩, HB2⟩
      · have hne : ((k : Int) != (n : Int) - 1) = false := by rw [bne_eq_false_iff_eq]; omega
        go_wp2_with (first
          | ((with_reducible refine gate_builtin (b := .append) (xs := #[.tmp 18, .tmp 19]) rfl ?_); at_builtin; refine print_append_row (w0 := w) w.heap.size rfl (.tmp 18) (.tmp 19) 35 5 .u8 1 rfl Tryz.underlying35 info5 (by decide) u5 (ints (lineTo ws k)) (ints ws[k]) Aj (ws[k]).length cj rfl rfl HO.out HRJ.out HB.out ?r1 ?r2 ?_; (case r1 => exact HB.out.size); (case r2 => have := HLN.out; have := HLIM.out; rw [ints_length]; omega); intro v1 w1 ho hb hg hat; rw [← ints_append] at ho; have HO1 := Aside0.mk ho; have HB1 := Aside0.mk hb; clear ho hb hg hat HO HB HRJ))
        go_roundg (n - (k+1))
        case measure => have := HQ.out; omega
        case rel => exact ⟨k+1, by omega, ⟨rfl⟩, by go_num, ⟨by rw [lineTo_last ws k hkw (by rw [HL.out]; exact hl)]; exact HO1.out⟩, HB1⟩
    · have hf := Aside0.mk (lineTo_all ws k (by rw [HL.out]; exact hlt))
      rw [hf.out] at HO
      have HTL := Aside0.mk (sp_length ws)
      clear HR
      go_wp2_with (first
          | ((with_reducible refine gate_builtin (b := .append) (xs := #[.tmp 30, .tmp 31]) rfl ?_); at_builtin; refine print_append_num (w0 := w) w.heap.size rfl (.tmp 30) (.tmp 31) 35 5 .u8 1 rfl Tryz.underlying35 info5 (by decide) u5 (ints (sp ws)) 13 rfl rfl HO.out HB.out ?s1 ?s2 ?_; (case s1 => exact HB.out.size); (case s2 => have := HTL.out; have := HLIM.out; rw [ints_length]; omega); intro v1 w1 ho hb hg hat; have HO1 := Aside0.mk ho; have HB1 := Aside0.mk hb; clear ho hb hg hat HO HB)
          | ((with_reducible refine gate_builtin (b := .append) (xs := #[.tmp 33, .tmp 34]) rfl ?_); at_builtin; refine print_append_num (w0 := w) w.heap.size rfl (.tmp 33) (.tmp 34) 35 5 .u8 1 rfl Tryz.underlying35 info5 (by decide) v1 (ints (sp ws) ++ [13]) 10 rfl rfl HO1.out HB1.out ?t1 ?t2 ?_; (case t1 => exact HB1.out.size); (case t2 => have := HTL.out; have := HLIM.out; rw [List.length_append, ints_length]; simp only [List.length_cons, List.length_nil]; omega); intro v2 w2 ho hb hg hat; have HO2 := Aside0.mk ho; have HB2 := Aside0.mk hb; clear ho hb hg hat HO1 HB1))
      have hlen : (ints (sp ws) ++ [13] ++ [10]).length = (sp ws ++ [13, 10]).length := by simp [ints]
      have hnum : ints (sp ws) ++ [13] ++ [10] = ints (sp ws ++ [13, 10]) := by simp [ints]
      have ho := HO2.out
      rw [hlen, hnum] at ho
      obtain ⟨g, cap, hv, hg1, hg2⟩ := ho.form (by simp)
      rw [hv] at ho
      rw [hv]
      refine (Write_calls (w := w2) T rem out (sp ws ++ [13, 10]) fds ⟨g, 0, none⟩ cap (HDO.out.below HB2.out) (fun g hg => Nat.lt_of_lt_of_le (HP.out g hg) HB2.out.size) (own_reads' ho) ?_).mono ?_
      · have := HTL.out
        have := HLIM.out
        have := HOUT.out
        rw [List.length_append]
        simp only [List.length_cons, List.length_nil]
        omega
      rintro e w3 ⟨rfl, hd3, hf3⟩
      have HD3 := Aside0.mk hd3
      have HF3 := Aside0.mk ((Fix.ofBelow HB2.out HP.out).trans hf3)
      clear hd3 hf3 ho hv hg1 hg2 hlen hnum HO2 HB2
      go_wp2
      go_ret
      exact ⟨rfl, HD3.out, HF3.out⟩
end Go.Proofs.YtkmdjpinpjcndaaGreatDoor

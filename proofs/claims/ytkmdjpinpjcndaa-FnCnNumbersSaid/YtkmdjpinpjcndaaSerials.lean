/-
  The walk of the function that gives the first serials, some taken back in between.
-/
import Derived.Test.YtkmdjpinpjcndaaGen
namespace Go.Proofs.Ytkmdjpinpjcndaa
open Go.RowKit Go.Proofs.YtkmdjpinpjcndaaW.PrintWords Go.Maps Go.MuLone

/-- The operation is a builtin over these places. -/
theorem gate_builtin {P : Program} {ops : Array Oper} {rest : List Oper} {o : Oper} {a : Act} {Q : Exit → Act → World → Prop} {W : World} {b : Builtin} {xs : Array Operand} {ts : Array TypeId} (_ho : o.op = .call { callee := .builtin b, args := xs, argTypes := ts }) (h : wpList P ops Q (o :: rest) a W) : wpList P ops Q (o :: rest) a W := h

theorem info25 : (Try.prog.info? 25).map (fun i => (i.zero, i.size, i.bytes)) = some (some (.int .u32 0), 1, 4) := by kernel_rfl

/-- 1, 2, 3 and so on. -/
def firsts (k : Nat) : List Int := (List.range k).map fun i : Nat => (i : Int) + 1
theorem firsts_length (k : Nat) : (firsts k).length = k := by simp [firsts]
theorem firsts_succ (k : Nat) : firsts (k + 1) = firsts k ++ [(k : Int) + 1] := by simp [firsts, List.range_succ]

theorem own_gen {w w1 : World} {B G M m : Nat} {base n : Nat} {v : Value} {xs : List Value} (ho : w.ownsRow base 25 1 v n xs) (hg : Gen w B G M m) (hk : ∀ k, k ≠ G → k ≠ M → w1.heap[k]? = w.heap[k]?) : w1.ownsRow base 25 1 v n xs := by
  refine own_move ho fun k hkv => ?_
  obtain ⟨cs, hcs⟩ := own_typed ho k hkv
  obtain ⟨_, _, _, hh, n', D, hown, _⟩ := hg
  refine hk k ?_ ?_
  · rintro rfl
    rw [hh] at hcs
    injection hcs with hcs
    injection hcs with _ ht _
    exact absurd ht (by decide)
  · rintro rfl
    obtain ⟨es, clock, hb, _⟩ := hown
    rw [hb] at hcs
    cases hcs
theorem gen_own {w w1 : World} {B G M m : Nat} {base n : Nat} {v : Value} {xs : List Value} (ho : w.ownsRow base 25 1 v n xs) (hg : Gen w B G M m) (hgr : w.grownBy w1 v.ownBlock) : Gen w1 B G M m := by
  obtain ⟨h1, h2, h3, hh, n', D, hown, h4, h5⟩ := hg
  refine ⟨h1, h2, h3, ?_, n', D, hown.kept hgr ?_, h4, h5⟩
  · rw [hgr.block G (Array.getElem?_eq_some_iff.1 hh).1 ?_]
    · exact hh
    · intro hk
      obtain ⟨cs, hcs⟩ := own_typed ho G hk.symm
      rw [hh] at hcs
      injection hcs with hcs
      injection hcs with _ ht _
      exact absurd ht (by decide)
  · intro hk
    obtain ⟨cs, hcs⟩ := own_typed ho M hk.symm
    obtain ⟨es, clock, hb, _⟩ := hown
    rw [hb] at hcs
    cases hcs
theorem gen_below {w w1 : World} {B G M m : Nat} (hg : Gen w B G M m) (hk : ∀ k, k ≠ G → k ≠ M → w1.heap[k]? = w.heap[k]?) : ∀ k, k < B → w1.heap[k]? = w.heap[k]? := by
  obtain ⟨h1, h2, _⟩ := hg
  exact fun k hkB => hk k (by omega) (by omega)

theorem serial_below {w0 w w1 : World} {G M m : Nat} (hg : Gen w w0.heap.size G M m) (hb : Below w0.heap.size w0 w) (ho : OnlyGen G M w w1) : Below w0.heap.size w0 w1 :=
  hb.trans ⟨ho.out.1, ho.out.2.1, ho.out.2.2.1, by rw [ho.out.2.2.2.1]; exact Nat.le_refl _, gen_below hg ho.out.2.2.2.2⟩

set_option maxRecDepth 100000 in
set_option maxHeartbeats 1600000 in
theorem DoorSerials_calls (n : Nat) (A : Option Addr) (nb cb : Nat) (xs : List Int) (w : World) (hn : n ≤ 1000) (hr : ReadsInt w .u32 A nb xs) (hx : ∀ j, j < nb → ∃ x : Nat, xs.getD j 0 = x ∧ x < 4294967296) :
    Calls Try.prog 5 #[.int .i64 n, .slice A nb cb] w fun e w' => ∃ v, e = .returned v ∧ w'.ownsRow w.heap.size 25 1 v n (nums .u32 (firsts n)) ∧ Below w.heap.size w w' := by
  have HR := Aside0.mk hr
  have HX := Aside0.mk hx
  have HM := hr.2.1
  clear hr hx
  go_enter Try.func5, Try.ntmps5
  go_wp2_with (go_at_call 6; refine (newGen_calls w).mono ?_)
  rintro e w1 ⟨G, M, rfl, hg, hb⟩
  have HG := Aside0.mk hg
  have HB := Aside0.mk hb
  clear hg hb
  go_wp2_with fail
  go_loopg [6, 7] n (fun q v6 v7 w' => ∃ k : Nat, k ≤ n ∧ Aside0 (q = n - k) ∧ v7 = .int .i64 k ∧ Aside0 (w'.ownsRow w.heap.size 25 1 v6 (firsts k).length (nums .u32 (firsts k))) ∧ Aside0 (Gen w' w.heap.size G M (k + 1)) ∧ Aside0 (Below w.heap.size w w'))
  case atStart => exact ⟨0, by omega, ⟨by omega⟩, rfl, ⟨own_nil _ _ _ _⟩, HG, HB⟩
  case round =>
    obtain ⟨k, hk, HQ, rfl, HO, HGN, HBN⟩ := hrel
    by_cases hlt : k < n
    · go_wp2_with (go_at_call 7; refine (get_calls w.heap.size G M (k + 1) wr HGN.out (by omega) (by omega)).mono ?_)
      rintro e w2 ⟨rfl, hg2, hw2⟩
      have hb2 := serial_below HGN.out HBN.out hw2
      have ho2 := own_gen HO.out HGN.out hw2.out.2.2.2.2
      have HG2 := Aside0.mk hg2
      have HB2 := Aside0.mk hb2
      have HO2 := Aside0.mk ho2
      have HFL := Aside0.mk (firsts_length k)
      clear hg2 hb2 ho2 hw2 HO HGN HBN
      by_cases hkb : k < nb
      · obtain ⟨x, hx, hxl⟩ := HX.out k hkb
        obtain ⟨ad, rfl, hc⟩ := HR.out.2.2 (by omega)
        have hc0 := hc k hkb
        rw [hx] at hc0
        have HC := Aside0.mk hc0
        clear hc hc0 hx
        go_wp2_with (first
          | ((with_reducible refine gate_builtin (b := .append) (xs := #[.tmp 14, .tmp 17]) rfl ?_); at_builtin; refine print_append_num (w0 := w) w.heap.size rfl (.tmp 14) (.tmp 17) 23 25 .u32 4 rfl Try.underlying23 info25 (by decide) u6 (firsts k) ((k : Int) + 1) rfl rfl HO2.out HB2.out ?s1 ?s2 ?_; (case s1 => exact HB2.out.size); (case s2 => have := HFL.out; omega); intro v1 w3 ho hb hg hat; rw [← firsts_succ] at ho; have HO3 := Aside0.mk ho; have HB3 := Aside0.mk hb; have HG3 := Aside0.mk (gen_own HO2.out HG2.out hg); clear ho hb hg hat HO2 HB2 HG2; have hcell := pw_cell_below HB3.out HC.out))
        refine (retire_calls w.heap.size G M (k + 1 + 1) x w3 HG3.out hxl).mono ?_
        rintro e w4 ⟨rfl, hg4, hw4⟩
        have hb4 := serial_below HG3.out HB3.out hw4
        have ho4 := own_gen HO3.out HG3.out hw4.out.2.2.2.2
        have HG4 := Aside0.mk hg4
        have HB4 := Aside0.mk hb4
        have HO4 := Aside0.mk ho4
        clear hg4 hb4 ho4 hw4 HO3 HB3 HG3
        go_wp2
        go_roundg (n - (k+1))
        case measure => have := HQ.out; omega
        case rel => exact ⟨k+1, by omega, ⟨rfl⟩, by go_num, HO4, HG4, HB4⟩
      · go_wp2_with (first
          | ((with_reducible refine gate_builtin (b := .append) (xs := #[.tmp 14, .tmp 17]) rfl ?_); at_builtin; refine print_append_num (w0 := w) w.heap.size rfl (.tmp 14) (.tmp 17) 23 25 .u32 4 rfl Try.underlying23 info25 (by decide) u6 (firsts k) ((k : Int) + 1) rfl rfl HO2.out HB2.out ?s1 ?s2 ?_; (case s1 => exact HB2.out.size); (case s2 => have := HFL.out; omega); intro v1 w3 ho hb hg hat; rw [← firsts_succ] at ho; have HO3 := Aside0.mk ho; have HB3 := Aside0.mk hb; have HG3 := Aside0.mk (gen_own HO2.out HG2.out hg); clear ho hb hg hat HO2 HB2 HG2))
        go_roundg (n - (k+1))
        case measure => have := HQ.out; omega
        case rel => exact ⟨k+1, by omega, ⟨rfl⟩, by go_num, HO3, HG3, HB3⟩
    · have hkn : k = n := by omega
      subst hkn
      have HFL := Aside0.mk (firsts_length k)
      go_wp2
      go_ret
      refine ⟨_, rfl, ?_, HBN.out⟩
      have := HO.out
      rw [HFL.out] at this
      exact this
end Go.Proofs.Ytkmdjpinpjcndaa

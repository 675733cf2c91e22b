/-
  The mechanisms among the arguments, read out of the heap.
-/
import Derived.Test.YtkmdjpinpjcndaaGreatDoorOffer
import Derived.Lib.SmallJoins
import Derived.Deep.Slices
import Derived.SliceStrings
import Derived.ChangeArms
namespace Go.Proofs.YtkmdjpinpjcndaaGreatDoor
open Go.RowKit Go.Proofs.YtkmdjpinpjcndaaGreatDoorW.PrintWords Go.ChangeShapes Go.WideShapes Go.Deep
variable {H : Type} {enc : TypeId × Value → H} {w : World} {base : Nat} {spare : Nat → Bool} {held : Bool}

instance : Inhabited M4 := ⟨⟨0, ⟨#[]⟩, 0, none, 0, 0⟩⟩
theorem take_one {α : Type} {cs : List α} {o : Nat} {v : α} (h : (cs.drop o).take 1 = [v]) : cs[o]? = some v := by
  have h1 : ((cs.drop o).take 1)[0]? = some v := by rw [h]; rfl
  rw [List.getElem?_take] at h1
  simpa [List.getElem?_drop] using h1
theorem cells5 : Tryz.prog.cellsOf 5 = 1 := by kernel_rfl
theorem cells9 : Tryz.prog.cellsOf 9 = 1 := by kernel_rfl
theorem cells27 : Tryz.prog.cellsOf 27 = 1 := by kernel_rfl
theorem cells29 : Tryz.prog.cellsOf 29 = 4 := by kernel_rfl
theorem cells49 : Tryz.prog.cellsOf 49 = 2 := by kernel_rfl
theorem plain_of {a : Addr} {k : Nat} {cs : List Value} (h : w.cells? base (a.add (0 * k)) k = some cs) (hk : 0 < k) : ∃ b o, a = ⟨b, o, none⟩ := by
  obtain ⟨_, hlen, hcell⟩ := World.cells?_some h
  have h0 := hcell 0 hk
  rw [List.getElem?_eq_getElem (by omega), Nat.zero_mul] at h0
  obtain ⟨b, o, s⟩ := a
  have h1 := World.cell?_spot h0
  have : s = none := by simpa [Addr.add] using h1
  exact ⟨b, o, by rw [this]⟩

theorem open_ans {fuel : Nat} {aa : Option Addr} {an ac : Nat} {x : DataW H × List MemPlace} (h : DataW.trod enc Tryz.prog w base spare held fuel 27 [.slice aa an ac] = some x) : Ans (fun k => k < w.heap.size) w aa an := by
  rcases open_slice Tryz.underlying27 h with ⟨hcs, _⟩ | ⟨a, len, cap, m, n, D, Pl, hcs, _, hl, hm, hmm, _, hx⟩
  · injection hcs with hcs
    injection hcs with h1 h2 h3
    subst h1 h2
    exact ⟨by omega, fun j hj => by omega⟩
  · injection hcs with hcs
    injection hcs with h1 h2 h3
    subst h1 h2 h3
    have hle : an ≤ m := by rw [hmm]; split <;> omega
    refine ⟨by simp only [maxLen] at hm; omega, fun j hj => ?_⟩
    obtain ⟨cs', hc, ht⟩ := hx j (by omega)
    rw [cells49] at hc
    obtain ⟨_, hlen, hcell⟩ := World.cells?_some hc
    obtain ⟨y0, y1, n', _, _, t0, t1⟩ := trod_struct2 Tryz.underlying49 ht
    simp only [cells9, cells5] at t0 t1
    obtain ⟨t, e0, _, hts⟩ := DataW.trod_string Tryz.underlying9 t0
    obtain ⟨q, e1, _, _⟩ := DataW.trod_int Tryz.underlying5 t1
    have g0 := (hcell 0 (by omega)).trans (take_one e0)
    have g1 := (hcell 1 (by omega)).trans (take_one e1)
    rw [Go.Deep.add_add] at g0 g1
    obtain ⟨cz, hc0, _⟩ := hx 0 (Nat.lt_of_lt_of_le (Nat.lt_of_le_of_lt (Nat.zero_le _) (by assumption)) hle)
    obtain ⟨b, o, rfl⟩ := plain_of hc0 (by rw [cells49]; omega)
    rw [add_at] at g0 g1
    exact ⟨b, o, t, q, rfl, World.block_lt_of_cell? w _ g0, g0, g1, by simp only [maxLen] at hts; omega⟩

theorem open_mechs {fuel : Nat} {A : Option Addr} {n c : Nat} {x : DataW H × List MemPlace} (h : DataW.trod enc Tryz.prog w base spare held fuel 23 [.slice A n c] = some x) :
    ∃ ml : List M4, ml.length = n ∧ ReadsF w A ml ∧ ∀ i, i < ml.length → 0 ≤ (mAt ml i).k ∧ 0 ≤ (mAt ml i).f := by
  rcases open_slice Tryz.underlying23 h with ⟨hcs, _⟩ | ⟨a, len, cap, m, n', D, Pl, hcs, _, hl, hm, hmm, _, hx⟩
  · injection hcs with hcs
    injection hcs with h1 h2 h3
    subst h1 h2
    exact ⟨[], rfl, ⟨by simp, fun i hi => by simp at hi, fun i hi => by simp at hi⟩, fun i hi => by simp at hi⟩
  · injection hcs with hcs
    injection hcs with h1 h2 h3
    subst h1 h2 h3
    have hle : n ≤ m := by rw [hmm]; split <;> omega
    have hnm : n ≤ 9223372036854775807 := by simp only [maxLen] at hm; omega
    have each : ∀ i, i < n → ∃ mm : M4, ∃ b o, a = ⟨b, o, none⟩ ∧ b < w.heap.size ∧ w.cell? ⟨b, o + i * 4, none⟩ = some (.int .u8 mm.k) ∧ w.cell? ⟨b, o + i * 4 + 1, none⟩ = some (.string mm.name) ∧ w.cell? ⟨b, o + i * 4 + 2, none⟩ = some (.int .u8 mm.f) ∧
        w.cell? ⟨b, o + i * 4 + 3, none⟩ = some (.slice mm.aa mm.an mm.ac) ∧ Ans (fun k => k < w.heap.size) w mm.aa mm.an ∧ mm.name.size ≤ 9223372036854775807 ∧ 0 ≤ mm.k ∧ 0 ≤ mm.f := fun i hi => by
      obtain ⟨cs', hc, ht⟩ := hx i (by omega)
      rw [cells29] at hc
      obtain ⟨_, hlen, hcell⟩ := World.cells?_some hc
      obtain ⟨y0, y1, y2, y3, n', _, _, t0, t1, t2, t3⟩ := Go.Joins.trod_struct4 Tryz.underlying29 ht
      simp only [cells9, cells5, cells27] at t0 t1 t2 t3
      obtain ⟨k, e0, _, hk⟩ := DataW.trod_int Tryz.underlying5 t0
      obtain ⟨nm, e1, _, hs⟩ := DataW.trod_string Tryz.underlying9 t1
      obtain ⟨f, e2, _, hf⟩ := DataW.trod_int Tryz.underlying5 t2
      have e3 : ∃ aa an ac, (cs'.drop 3).take 1 = [.slice aa an ac] := by
        rcases open_slice Tryz.underlying27 t3 with ⟨h, _⟩ | ⟨a', len', cap', _, _, _, _, h, _⟩
        · exact ⟨_, _, _, h⟩
        · exact ⟨_, _, _, h⟩
      obtain ⟨aa, an, ac, e3⟩ := e3
      rw [e3] at t3
      have ha := open_ans t3
      have g0 := (hcell 0 (by omega)).trans (take_one e0)
      have g1 := (hcell 1 (by omega)).trans (take_one e1)
      have g2 := (hcell 2 (by omega)).trans (take_one e2)
      have g3 := (hcell 3 (by omega)).trans (take_one e3)
      rw [Go.Deep.add_add] at g0 g1 g2 g3
      obtain ⟨cz, hc0, _⟩ := hx 0 (Nat.lt_of_lt_of_le (Nat.lt_of_le_of_lt (Nat.zero_le _) (by assumption)) hle)
      obtain ⟨b, o, rfl⟩ := plain_of hc0 (by rw [cells29]; omega)
      rw [add_at] at g0 g1 g2 g3
      have hk0 : 0 ≤ k := by
        have h1 : IntKind.u8.min = 0 := rfl
        simp only [Lit.wf, Bool.and_eq_true, decide_eq_true_eq] at hk
        omega
      have hf0 : 0 ≤ f := by
        have h1 : IntKind.u8.min = 0 := rfl
        simp only [Lit.wf, Bool.and_eq_true, decide_eq_true_eq] at hf
        omega
      exact ⟨⟨k, nm, f, aa, an, ac⟩, b, o, rfl, World.block_lt_of_cell? w _ g0, g0, g1, g2, g3, ha, by simp only [maxLen] at hs; show nm.size ≤ _; omega, hk0, hf0⟩
    obtain ⟨F, hF⟩ := choose_lt each
    refine ⟨(List.range n).map F, by simp, ⟨by simp; exact hnm, fun i hi => ?_, fun i hi => ?_⟩, fun i hi => ?_⟩
    all_goals
      have hi' : i < n := by simpa using hi
      have e : mAt ((List.range n).map F) i = F i := by rw [mAt_eq _ _ hi]; simp
      rw [e]
      obtain ⟨b, o, e1, hb, g0, g1, g2, g3, ha, hs, hk, hf⟩ := hF i hi'
    · exact ⟨b, o, by rw [e1], hb, g0, g1, g2, g3⟩
    · exact ⟨ha, hs⟩
    · exact ⟨hk, hf⟩
end Go.Proofs.YtkmdjpinpjcndaaGreatDoor

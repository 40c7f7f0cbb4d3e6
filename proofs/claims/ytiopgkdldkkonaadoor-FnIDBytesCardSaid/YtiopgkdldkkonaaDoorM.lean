/-
  A slice of numbers among the arguments: what the walk wants of it, and that it reads behind the call as it did.
-/
import Derived.Test.YtiopgkdldkkonaaDoorL
import Derived.Test.YtiopgkdldkkonaaDoorTie
import Derived.Test.YtiopgkdldkkonaaDoorCards
import Derived.ProofKit
import Derived.OpenShut
import Derived.Deep.DeepHandedRow
import Derived.Lib.LaidTab
namespace Go.Proofs.YtiopgkdldkkonaaDoor
open Go.ChangeShapes Go.WideShapes Go.ChangeAt Go.RowKit Go.Proofs.YtiopgkdldkkonaaDoorW.PrintWords Go.Proofs.YtiopgkdldkkonaaDoor.Num
set_option linter.unusedVariables false

theorem own : ownKnob Tryd.prog.godebug = none := by kernel_rfl
theorem cells5 : Tryd.prog.cellsOf 5 = 1 := by kernel_rfl
theorem cells3 : Tryd.prog.cellsOf 3 = 1 := by kernel_rfl
theorem cells60 : Tryd.prog.cellsOf 60 = 1 := by kernel_rfl
theorem cells117 : Tryd.prog.cellsOf 117 = 20 := by kernel_rfl
theorem gPow : Tryd.prog.globalNamed "internal/strconv.uint64pow10" = some 1 := by kernel_rfl
theorem gPowType : (Tryd.prog.globals[1]?).map (·.type) = some 117 := by kernel_rfl

theorem laid_tail {P : Program} {W : World} {x : String × DataW Unit} {rest : List (String × DataW Unit)} (h : laidMet P (x :: rest) W) : laidMet P rest W := by
  obtain ⟨ps, ⟨g, t, cs, fuel, p, q, _, _, _, _, hr, he⟩, hn, hm⟩ := h
  subst he
  exact ⟨q, hr, (List.nodup_append.1 hn).2.1, fun b off hb => hm b off (List.mem_append_right _ hb)⟩

/-- WHAT A ROW's LIST GIVES: the powers of ten. -/
theorem tab_of_laid {W : World} (h : laidMetH Tryd.prog Rows.fnIDBytesRow.laid W) : Tab W := by
  have h0 : laidMet Tryd.prog Rows.fnIDBytesRow.laid W := h
  have h2 := laid_tail (laid_tail h0)
  exact Lib.tabIs_of_head (rest := []) gPow gPowType Tryd.underlying117 Tryd.underlying60 cells60 cells117 h2

section
variable {H : Type} {enc : TypeId × Value → H} {W : World}
set_option maxRecDepth 100000 in
/-- The slice, opened; the promise that it reads the same in each world that has left the caller's blocks alone. -/
theorem open_row {t e : TypeId} {k : IntKind} {base : Nat} {v : Value} {d : DataW H} {p : List MemPlace} (ht : Tryd.prog.underlying t = some (.slice e)) (he : Tryd.prog.underlying e = some (.int k)) (hc : Tryd.prog.cellsOf e = 1)
    (hval : Value.okWide Tryd.prog W .any base t v) (h : DataW.Trod enc Tryd.prog W 0 (fun _ => true) true t v d p) :
    ∃ (A : Option Addr) (c : Nat) (zs : List Int), v = .slice A zs.length c ∧ zs.length ≤ c ∧ c ≤ maxLen ∧ (Kd.int k).C W A zs.length zs ∧ (∀ n ∈ zs, (Lit.int k n).wf = true) ∧ (zs ≠ [] → ∃ b off, A = some ⟨b, off, none⟩) ∧
      ∀ W' : World, Below W.heap.size W W' → ∀ sp : Nat → Bool, (∀ x ∈ p, sp x.block = true) → DataW.Trod enc Tryd.prog W' 0 sp true t v d p := by
  obtain ⟨a1, len, cap, rfl⟩ := okWide_slice ht hval
  obtain ⟨fuel, hf⟩ := h
  rcases open_ints ht he hc hf with ⟨hcs, hx⟩ | ⟨a, len', cap', zs, hcs, _, hl, hm, hz, hx, hcell, hwz⟩
  · simp [Value.cells] at hcs
    obtain ⟨rfl, rfl, rfl⟩ := hcs
    simp only [Prod.mk.injEq] at hx
    obtain ⟨rfl, rfl⟩ := hx
    exact ⟨none, 0, [], rfl, Nat.le_refl _, Nat.zero_le _, ⟨rfl, by simp, fun h => by simp at h⟩, fun n hn => by simp at hn, fun h => absurd rfl h, fun W' _ sp _ => shut_slice_nil ht⟩
  · simp [Value.cells] at hcs
    obtain ⟨rfl, rfl, rfl⟩ := hcs
    simp only [Prod.mk.injEq] at hx
    obtain ⟨rfl, rfl⟩ := hx
    simp only [if_true] at hz
    have htl : (zs.take len).length = len := by rw [List.length_take]; omega
    refine ⟨some a, cap, zs.take len, by rw [htl], by omega, hm, ?_, fun n hn => hwz n (List.mem_of_mem_take hn), fun hne => ?_, fun W' hB sp hsp => ?_⟩
    · refine ⟨rfl, by rw [htl]; unfold maxLen at hm; omega, fun hp => ⟨a, rfl, fun j q hj => ?_⟩⟩
      have hjl : j < len := by
        have := (List.getElem?_eq_some_iff.1 hj).1
        omega
      have hjz : j < zs.length := by omega
      have hq : q = zs[j] := by
        rw [List.getElem?_take_of_lt hjl, List.getElem?_eq_getElem hjz] at hj
        injection hj with hj; exact hj.symm
      refine ⟨[.int k q], rfl, rfl, fun i u hu => ?_⟩
      have hi : i = 0 := by
        have := (List.getElem?_eq_some_iff.1 hu).1
        simp at this; exact this
      subst hi
      simp at hu
      subst hu
      have := hcell j hjz
      rw [List.getD_eq_getElem?_getD, List.getElem?_eq_getElem hjz] at this
      rw [hq]
      simpa [Kd.int, Kd.scalar] using this
    · have h0 : 0 < zs.length := by
        have := List.length_pos_iff.2 hne
        omega
      obtain ⟨b, off, rfl, _⟩ := ints_at hcell h0
      exact ⟨b, off, rfl⟩
    · refine ⟨2, ?_⟩
      refine shut_ints 0 ht he hc (Nat.zero_le _) hl hm ?_ (fun i hi => (hB.cell (World.block_lt_of_cell? _ _ (hcell i hi))).trans (hcell i hi)) hwz
      by_cases hcz : cap = 0
      · split <;> omega
      · have hs : sp a.block = true := hsp (.cell a.block (a.off + 0)) (by simp only [MemPlace.row, List.mem_map, List.mem_range]; exact ⟨0, by omega, rfl⟩)
        rw [if_pos hs]
        exact hz
end
end Go.Proofs.YtiopgkdldkkonaaDoor

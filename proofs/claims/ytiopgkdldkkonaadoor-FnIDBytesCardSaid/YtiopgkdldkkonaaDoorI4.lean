/-
  WALKS: setTwos, Or (byBits): digits joined.
-/
import Derived.Test.YtiopgkdldkkonaaDoorI3
namespace Go.Proofs.YtiopgkdldkkonaaDoor
open Go.RowKit Go.Proofs.YtiopgkdldkkonaaDoorW.PrintWords Go.Proofs.YtiopgkdldkkonaaDoor.Num Go.Proofs.YtiopgkdldkkonaaDoor.Pn
set_option linter.unusedVariables false
set_option linter.unusedSimpArgs false

theorem u32s_at {l : List Int} {i : Nat} (h : i < l.length) : (u32s l)[i]? = some (.int .u32 (rd l (i : Int))) := by
  unfold u32s rd
  rw [List.getElem?_map, List.getElem?_eq_getElem h, Int.toNat_natCast, List.getD_eq_getElem?_getD, List.getElem?_eq_getElem h]; rfl
theorem cell_u32s {w : World} {g : Nat} {l : List Int} (hg : w.heap[g]? = some (.cells (u32s l).toArray 84 (0, 0))) {i : Nat} (h : i < l.length) : w.cell? ⟨g, i, none⟩ = some (.int .u32 (rd l (i : Int))) := by
  rw [Lib.cell_of_heap hg]; simpa using u32s_at h

set_option maxHeartbeats 2000000 in
set_option maxRecDepth 100000 in
theorem setTwos_any (b g n : Nat) (l : List Int) (hl : l.length = n) (hn0 : 0 < n) (hn : n ≤ 1000) (hw : Wd l) (htop : rd l ((n : Int) - 1) = 0) (x y : Value) (w : World) (hb : w.heap[b]? = some (.cells #[x, y] 66 (0, 0))) (hg : w.heap[g]? = some (.cells (u32s l).toArray 84 (0, 0))) :
    Calls Tryd.prog 59 #[.pointer (some ⟨b, 0, none⟩), .slice (some ⟨g, 0, none⟩) n n] w fun e w' => e = .returned (.pointer (some ⟨b, 0, none⟩)) ∧ It w' b (vl l) (fun k => k = g ∨ w.heap.size ≤ k) ∧ Ch w w' (fun k => k = b) := by
  have hct : w.cell? ⟨g, n - 1, none⟩ = some (.int .u32 0) := by
    rw [cell_u32s hg (by omega), show ((n - 1 : Nat) : Int) = (n : Int) - 1 from by omega, htop]
  have hne : b ≠ g := by intro e; subst e; rw [hb] at hg; injection hg with hg; injection hg with _ ht _; cases ht
  have HNE := Lib.hid hne
  have HV := Lib.hid (row_V hg (by omega))
  have HB := Lib.hid hb
  have HW := Lib.hid hw
  have HT := Lib.hid htop
  have HL := Lib.hid hl
  have hlen : 0 < (n : Int) := by omega
  have hd1 : decide (0 < (n : Int)) = true := by simpa using hn0
  have hd2 : decide (0 < n) = true := by simpa using hn0
  clear hb hg hw htop hne hl
  go_enter Tryd.func59, Tryd.ntmps59
  go_wp2_with fail
  have hnorm := fun W (hW : Kd.V (Kd.int .u32) 84 W W.heap.size (fun k => k = g) (.slice (some ⟨g, 0, none⟩) l.length n) l) => smallbig_nat_norm.calls 2000 (fun k => k = g) (some ⟨g, 0, none⟩) n l (dg (vl l)) W hW (norm_f HW.out (by have := HL.out; omega) (by have := HL.out; omega))
  rw [HL.out] at hnorm
  refine (hnorm w (by have h := HV.out; rw [HL.out] at h; exact h)).mono ?_
  rintro e w1 ⟨v, rfl, hN, hB⟩
  clear hnorm
  obtain ⟨A1, c1_, rfl, hq1, hq2⟩ := Nt.form hN
  clear hq1 hq2
  obtain ⟨c0, c1, f0, f1⟩ := it_cells ((hB.block b (blk_lt HB.out)).trans HB.out)
  have hc1 := (Ch.of_below' hB (fun k => k = b))
  have hfin : ∀ w2 : World, Ch w1 w2 (fun k => k = b) → w2.heap[b]? = some (.cells #[.bool false, .slice A1 (dg (vl l)).length c1_] 66 (0, 0)) → It w2 b (vl l) (fun k => k = g ∨ w.heap.size ≤ k) ∧ Ch w w2 (fun k => k = b) := fun w2 h1 h2 =>
    ⟨⟨_, h2, Nt.ch (Nt.of hN) h1 (fun k hk _ e => by subst e; rcases hk with hk | hk; exact HNE.out hk; have := blk_lt HB.out; omega)⟩, hc1.same h1⟩
  have hb1 : w1.heap[b]? = some (.cells #[x, y] 66 (0, 0)) := (hB.block b (blk_lt HB.out)).trans HB.out
  have hP := hfin ((w1.setCell ⟨b, 1, none⟩ (.slice A1 (dg (vl l)).length c1_)).setCell ⟨b, 0, none⟩ (.bool false)) (((Ch.refl w1 (fun k => k = b)).setCell ⟨b, 1, none⟩ (fun _ => rfl) _).setCell ⟨b, 0, none⟩ (fun _ => rfl) _) (by simp [World.setCell, Array.getElem?_modify, hb1])
  have HP := Lib.hid hP
  clear hP hfin hN hB hc1 hb1
  go_wp2
  go_ret
  exact ⟨rfl, HP.out⟩

set_option maxRecDepth 100000 in
theorem or_digit (a c : Int) (w : World) : Calls Tryd.prog 44 #[.int .u32 a, .int .u32 c] w fun e w' => e = .returned (.int .u32 (Go.bits .or .u32 a c)) ∧ w' = w := by
  go_enter Tryd.func44, Tryd.ntmps44
  go_wp2
  go_ret
  exact ⟨rfl, rfl⟩
end Go.Proofs.YtiopgkdldkkonaaDoor

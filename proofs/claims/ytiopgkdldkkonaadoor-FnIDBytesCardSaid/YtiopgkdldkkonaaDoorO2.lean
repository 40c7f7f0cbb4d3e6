/-
  WALKS: OIDBytes' closure; calm.
-/
import Derived.Test.YtiopgkdldkkonaaDoorO1
import Derived.Defers
import Derived.Recover
namespace Go.Proofs.YtiopgkdldkkonaaDoor
open Go.RowKit Go.Proofs.YtiopgkdldkkonaaDoorW.PrintWords Go.Proofs.YtiopgkdldkkonaaDoor.Num Go.Proofs.YtiopgkdldkkonaaDoor.Pn
set_option linter.unusedVariables false
set_option linter.unusedSimpArgs false

theorem c8_some {w : World} {A : Option Addr} {n : Nat} {l : List UInt8} (h : (Kd.int .u8).C w A n (ints l)) (hl : l ≠ []) :
    ∃ ad, A = some ad ∧ ∀ j u, (Lib.byteCells l)[j]? = some u → w.cell? (ad.add j) = some u := (c8_cells h hl).2
theorem okBytes_ne {l : List UInt8} (h : okBytes l = true) : l ≠ [] := by
  intro e; subst e; simp [okBytes] at h

/-- What the closure leaves. -/
def ClPost (w : World) (b1 b2 b3 : Nat) (l : List UInt8) (w' : World) : Prop :=
  Ch w w' (fun k => k = b1 ∨ k = b2 ∨ k = b3) ∧
  if okBytes l = true then ∃ A c, w'.heap[b1]? = some (.cells #[.string ⟨(oidText l).toArray⟩] 9 (0, 0)) ∧ w'.heap[b2]? = some (.cells #[.slice A l.length c] 23 (0, 0)) ∧ w'.heap[b3]? = some (.cells #[.bool true] 4 (0, 0)) ∧ Kd.R (Kd.int .u8) 5 w' w.heap.size (fun _ => True) (.slice A l.length c) (ints l)
  else w'.heap[b1]? = w.heap[b1]? ∧ w'.heap[b2]? = w.heap[b2]? ∧ w'.heap[b3]? = w.heap[b3]?

set_option maxHeartbeats 4000000 in
set_option maxRecDepth 100000 in
theorem closure_any (b0 b1 b2 b3 : Nat) (x1 x2 x3 : Value) (l : List UInt8) (hl : l.length ≤ 900) (A : Option Addr) (c : Nat) (w : World) (h0 : w.heap[b0]? = some (.cells #[.slice A l.length c] 23 (0, 0)))
    (h1 : w.heap[b1]? = some (.cells #[x1] 9 (0, 0))) (h2 : w.heap[b2]? = some (.cells #[x2] 23 (0, 0))) (h3 : w.heap[b3]? = some (.cells #[x3] 4 (0, 0)))
    (hC : (Kd.int .u8).C w A l.length (ints l)) (htab : Lib.TabIs Tryd.prog w "internal/strconv.uint64pow10" .u64 Lib.pow10Tab) :
    Calls Tryd.prog 13 #[.pointer (some ⟨b0, 0, none⟩), .pointer (some ⟨b1, 0, none⟩), .pointer (some ⟨b2, 0, none⟩), .pointer (some ⟨b3, 0, none⟩)] w fun e w' => e = .returned (.tuple #[]) ∧ ClPost w b1 b2 b3 l w' := by
  have hu39 := Tryd.underlying39
  have H0 := Lib.hid h0
  have H1 := Lib.hid h1
  have H2 := Lib.hid h2
  have H3 := Lib.hid h3
  have HC := Lib.hid hC
  have HT := Lib.hid htab
  have l0 := blk_lt h0
  have e0 : ∀ o, (w.alloc o).cell? ⟨b0, 0, none⟩ = some (.slice A l.length c) := fun o => by rw [World.cell?_alloc_old _ _ _ (Nat.ne_of_lt l0), Lib.cell_of_heap h0]; rfl
  clear h0 h1 h2 h3 hC htab
  go_enter Tryd.func13, Tryd.ntmps13
  go_wp2_with fail
  refine (unmarshal_any w.heap.size (.slice none 0 0) l (by omega) A c _ (heap_alloc_new w _) (Kd.C_below HC.out ((Below.refl _ _).alloc (Nat.le_refl _) _))).mono ?_
  rintro e w1 hU
  unfold UnPost at hU
  by_cases ho : okBytes l = true
  · rw [if_pos ho] at hU
    obtain ⟨rfl, A1, c1, hb1, hR1, hCh1⟩ := hU
    obtain ⟨ad, rfl, hcl⟩ := c8_some (c8_of_R hR1).2 (okBytes_ne ho)
    have hch : Ch w w1 (fun _ => False) := ((Ch.refl w (fun _ => False)).alloc _).trans hCh1 (fun i hi e => by omega)
    have HCH := Lib.hid hch
    have HR1 := Lib.hid (Kd.R_lower hR1 (show w.heap.size ≤ _ from by simp))
    have HB1 := Lib.hid hb1
    have HCL := Lib.hid hcl
    have d1 : w1.cell? ⟨w.heap.size, 0, none⟩ = some (.slice (some ad) l.length c1) := by rw [Lib.cell_of_heap hb1]; rfl
    have hpos : 0 < l.length := List.length_pos_iff.2 (okBytes_ne ho)
    clear hb1 hR1 hCh1 hcl hch
    go_wp2_with fail
    refine (string_any l hl hpos ad c1 w1 HCL.out (tabIs_below HT.out (HCH.out.below (Nat.le_refl _) (fun _ h => h.elim)))).mono ?_
    rintro e w2 ⟨rfl, hB2⟩
    have hch2 : Ch w w2 (fun _ => False) := HCH.out.same (Ch.of_below' hB2 _)
    have hb12 := hch2.blk H1.out (fun h => h)
    have k1 : w2.cell? ⟨b1, 0, none⟩ = some x1 := by rw [Lib.cell_of_heap hb12]; rfl
    have k2 : w2.frozen? ⟨b1, 0, none⟩ = false := Lib.frozen_of_heap hb12 0
    have hne : w.heap.size ≠ b1 := by have := blk_lt H1.out; omega
    have hbo : (w2.setCell ⟨b1, 0, none⟩ (.string ⟨(oidText l).toArray⟩)).heap[w.heap.size]? = some (.cells #[.slice (some ad) l.length c1] 39 (0, 0)) := (Below.heap_setCell w2 ⟨b1, 0, none⟩ _ w.heap.size hne).trans ((hB2.block _ (blk_lt HB1.out)).trans HB1.out)
    have k3 : (w2.setCell ⟨b1, 0, none⟩ (.string ⟨(oidText l).toArray⟩)).cell? ⟨w.heap.size, 0, none⟩ = some (.slice (some ad) l.length c1) := by rw [Lib.cell_of_heap hbo]; rfl
    have HR2 := Lib.hid (Kd.R_set (Kd.R_below HR1.out hB2) hb12 (by intro q hq; simp [Kd.int, Kd.scalar] at hq; subst hq; decide) 0 (.string ⟨(oidText l).toArray⟩))
    have HCH2 := Lib.hid (hch2.mono (T := fun k => k = b1) (fun _ _ h => h.elim) |>.setCell ⟨b1, 0, none⟩ (fun _ => rfl) (.string ⟨(oidText l).toArray⟩))
    have HB12 : Hid ((w2.setCell ⟨b1, 0, none⟩ (.string ⟨(oidText l).toArray⟩)).heap[b1]? = some (.cells #[.string ⟨(oidText l).toArray⟩] 9 (0, 0))) := Lib.hid (by simp [World.setCell, Array.getElem?_modify, hb12])
    clear hB2 hch2 hb12 hbo hne
    generalize hW3 : w2.setCell ⟨b1, 0, none⟩ (.string ⟨(oidText l).toArray⟩) = W3 at *
    go_wp2_with fail
    refine (marshal_any l (by omega) (some ad) c1 (c8_of_R HR2.out).1 W3 (c8_of_R HR2.out).2).mono ?_
    rintro e w4 ⟨A4, c4, rfl, hR4, hB4⟩
    have hch4 : Ch w w4 (fun k => k = b1) := HCH2.out.same (Ch.of_below' hB4 _)
    have l1 := blk_lt H1.out
    have l2 := blk_lt H2.out
    have l3 := blk_lt H3.out
    have n12 : b2 ≠ b1 := blk_ne H2.out H1.out (by decide)
    have n13 : b3 ≠ b1 := blk_ne H3.out H1.out (by decide)
    have n23 : b3 ≠ b2 := blk_ne H3.out H2.out (by decide)
    have g1 := (hB4.block b1 (blk_lt HB12.out)).trans HB12.out
    have g2 := hch4.blk H2.out n12
    have g3 := hch4.blk H3.out n13
    have k4 : w4.cell? ⟨b2, 0, none⟩ = some x2 := by rw [Lib.cell_of_heap g2]; rfl
    have f4 : w4.frozen? ⟨b2, 0, none⟩ = false := Lib.frozen_of_heap g2 0
    have g3' : (w4.setCell ⟨b2, 0, none⟩ (.slice A4 l.length c4)).heap[b3]? = some (.cells #[x3] 4 (0, 0)) := (Below.heap_setCell w4 ⟨b2, 0, none⟩ _ b3 n23).trans g3
    have k5 : (w4.setCell ⟨b2, 0, none⟩ (.slice A4 l.length c4)).cell? ⟨b3, 0, none⟩ = some x3 := by rw [Lib.cell_of_heap g3']; rfl
    have f5 : (w4.setCell ⟨b2, 0, none⟩ (.slice A4 l.length c4)).frozen? ⟨b3, 0, none⟩ = false := Lib.frozen_of_heap g3' 0
    have g2' : (w4.setCell ⟨b2, 0, none⟩ (.slice A4 l.length c4)).heap[b2]? = some (.cells #[.slice A4 l.length c4] 23 (0, 0)) := by simp [World.setCell, Array.getElem?_modify, g2]
    have g1' : (w4.setCell ⟨b2, 0, none⟩ (.slice A4 l.length c4)).heap[b1]? = some (.cells #[.string ⟨(oidText l).toArray⟩] 9 (0, 0)) := (Below.heap_setCell w4 ⟨b2, 0, none⟩ _ b1 (fun e => n12 e.symm)).trans g1
    have r4 := Kd.R_set (Kd.R_lower hR4 HCH2.out.size) g2 (by intro q hq; simp [Kd.int, Kd.scalar] at hq; subst hq; decide) 0 (.slice A4 l.length c4)
    have r5 := Kd.R_set r4 g3' (by intro q hq; simp [Kd.int, Kd.scalar] at hq; subst hq; decide) 0 (.bool true)
    have cc4 : Ch w ((w4.setCell ⟨b2, 0, none⟩ (.slice A4 l.length c4)).setCell ⟨b3, 0, none⟩ (.bool true)) (fun k => k = b1 ∨ k = b2 ∨ k = b3) :=
      ((hch4.mono (T := fun k => k = b1 ∨ k = b2 ∨ k = b3) (fun _ _ h => .inl h)).setCell ⟨b2, 0, none⟩ (fun _ => .inr (.inl rfl)) _).setCell ⟨b3, 0, none⟩ (fun _ => .inr (.inr rfl)) _
    have HP : Hid (ClPost w b1 b2 b3 l ((w4.setCell ⟨b2, 0, none⟩ (.slice A4 l.length c4)).setCell ⟨b3, 0, none⟩ (.bool true))) := Lib.hid (by
      refine ⟨cc4, ?_⟩
      rw [if_pos ho]
      refine ⟨A4, c4, (Below.heap_setCell _ ⟨b3, 0, none⟩ _ b1 (fun e => n13 e.symm)).trans g1', (Below.heap_setCell _ ⟨b3, 0, none⟩ _ b2 (fun e => n23 e.symm)).trans g2', (blk_set g3' 0 (.bool true)).trans rfl, r5⟩)
    clear hR4 hB4 hch4 g1 g2 g3 g3' g2' g1' r4 r5 cc4 n12 n13 n23 l1 l2 l3 k3 hW3
    go_wp2
    go_end0
    exact ⟨rfl, HP.out⟩
  · rw [if_neg ho] at hU
    obtain ⟨rfl, hB1⟩ := hU
    have hB : Below w.heap.size w w1 := ((Below.refl w.heap.size w).alloc (Nat.le_refl _) _).trans (hB1.mono (by simp))
    have HP : Hid (ClPost w b1 b2 b3 l w1) := Lib.hid (by
      refine ⟨Ch.of_below' hB _, ?_⟩
      rw [if_neg ho]
      exact ⟨hB.block _ (blk_lt H1.out), hB.block _ (blk_lt H2.out), hB.block _ (blk_lt H3.out)⟩)
    unfold badOID
    clear hB hB1
    go_wp2
    refine bodyPost_ret (results_none rfl _ _ _) rfl ?_
    exact ⟨rfl, HP.out⟩
end Go.Proofs.YtiopgkdldkkonaaDoor

/-
  WALKS: the package's whole numbers behind pointers: SetUint64, NewInt, Lsh by 7, Sub, Or, Append: what each comes to, and which blocks it writes.
-/
import Derived.Test.YtiopgkdldkkonaaDoorK
import Derived.Test.YtiopgkdldkkonaaDoorPnx8
import Derived.WalkKit
import Derived.OwnWalk
import Derived.KernelRfl
import Derived.Deep.RegionWith
import Derived.Deep.RegionHeld3
import Derived.Deep.DeepCutAuto
import Derived.Deep.QuietTactic
import Derived.BigQuiet
import Derived.Lib.Hide
import Derived.Outline
namespace Go.Proofs.YtiopgkdldkkonaaDoor
open Go.RowKit Go.Proofs.YtiopgkdldkkonaaDoorW.PrintWords Go.Proofs.YtiopgkdldkkonaaDoor.Num Go.Proofs.YtiopgkdldkkonaaDoor.Pn
set_option linter.unusedVariables false
set_option linter.unusedSimpArgs false

/-- Numbers of the size that this claim meets. -/
def lim : Nat := 4294967296 ^ 200
theorem len_lim {n : Nat} (h : n < lim) : (dg n).length ≤ 200 := dg_len_le h

theorem natOf_any (n : Nat) (hn : n < 18446744073709551616) (w : World) :
    Calls Tryd.prog 41 #[.int .u64 n] w fun e w' => ∃ v, e = .returned v ∧ Nt w' v n (fun k => w.heap.size ≤ k) ∧ Below w.heap.size w w' :=
  (smallbig_natOf.calls 3 n (dg n) w (natOf_f n hn (by omega))).mono fun _ _ ⟨v, he, h1, h2⟩ => ⟨v, he, Nt.of h1, h2⟩

theorem lsh7_any (n : Nat) (hn : n < lim) (v : Value) (S : Nat → Prop) (w : World) (h : Nt w v n S) :
    Calls Tryd.prog 42 #[v, .int .u64 7] w fun e w' => ∃ v, e = .returned v ∧ Nt w' v (n * 128) (fun k => w.heap.size ≤ k) ∧ Below w.heap.size w w' := by
  obtain ⟨A, c, rfl, hl, hC⟩ := h.form
  have := len_lim hn
  exact (smallbig_nat_lsh.calls 3000 A c (dg n) 7 (dg (n * 128)) w hC hl (lsh7_f n (by omega) (by omega))).mono fun _ _ ⟨v, he, h1, h2⟩ => ⟨v, he, Nt.of h1, h2⟩

/-- What an operation that lays its result into z leaves. -/
def ItPost (w : World) (b n : Nat) (w' : World) : Prop := It w' b n (fun k => w.heap.size ≤ k) ∧ Ch w w' (fun k => k = b)

theorem it_cells {w : World} {b : Nat} {x y : Value} (hb : w.heap[b]? = some (.cells #[x, y] 66 (0, 0))) :
    w.cell? ⟨b, 0, none⟩ = some x ∧ w.cell? ⟨b, 1, none⟩ = some y ∧ w.frozen? ⟨b, 0, none⟩ = false ∧ w.frozen? ⟨b, 1, none⟩ = false :=
  ⟨by rw [Lib.cell_of_heap hb]; rfl, by rw [Lib.cell_of_heap hb]; rfl, Lib.frozen_of_heap hb 0, Lib.frozen_of_heap hb 1⟩

/-- The digits laid into z, then its sign. -/
theorem it_put {w w1 : World} {b n : Nat} {x y v : Value} (hb : w.heap[b]? = some (.cells #[x, y] 66 (0, 0))) (hN : Nt w1 v n (fun k => w.heap.size ≤ k)) (hB : Below w.heap.size w w1) :
    ItPost w b n ((w1.setCell ⟨b, 1, none⟩ v).setCell ⟨b, 0, none⟩ (.bool false)) ∧ ItPost w b n ((w1.setCell ⟨b, 0, none⟩ (.bool false)).setCell ⟨b, 1, none⟩ v) := by
  have hlt := blk_lt hb
  have hb1 : w1.heap[b]? = some (.cells #[x, y] 66 (0, 0)) := (hB.block b hlt).trans hb
  have hc := Ch.of_below' hB (fun k => k = b)
  have aux : ∀ w2 : World, Ch w1 w2 (fun k => k = b) → w2.heap[b]? = some (.cells #[.bool false, v] 66 (0, 0)) → ItPost w b n w2 := fun w2 h1 h2 =>
    ⟨⟨v, h2, hN.ch h1 (fun k hk _ e => by subst e; omega)⟩, hc.same h1⟩
  refine ⟨aux _ (((Ch.refl w1 (fun k => k = b)).setCell ⟨b, 1, none⟩ (fun _ => rfl) _).setCell ⟨b, 0, none⟩ (fun _ => rfl) _) ?_, aux _ (((Ch.refl w1 (fun k => k = b)).setCell ⟨b, 0, none⟩ (fun _ => rfl) _).setCell ⟨b, 1, none⟩ (fun _ => rfl) _) ?_⟩
  · simp [World.setCell, Array.getElem?_modify, hb1]
  · simp [World.setCell, Array.getElem?_modify, hb1]
theorem ItPost.drew {w w1 : World} {b n : Nat} (h : ItPost w b n w1) : ItPost w b n w1.drew := by
  obtain ⟨⟨v, h1, h2⟩, h3⟩ := h
  exact ⟨⟨v, h1, Kd.V_drew h2⟩, h3.drew⟩
theorem ItPost.of_drew {w w1 : World} {b n : Nat} (h : ItPost w.drew b n w1) : ItPost w b n w1 := by
  obtain ⟨h1, h2⟩ := h
  exact ⟨h1, ⟨h2.os, h2.tape, h2.output, h2.size, h2.block⟩⟩

set_option maxHeartbeats 1000000 in
set_option maxRecDepth 100000 in
theorem setUint64_any (b n : Nat) (hn : n < 18446744073709551616) (x y : Value) (w : World) (hb : w.heap[b]? = some (.cells #[x, y] 66 (0, 0))) :
    Calls Tryd.prog 26 #[.pointer (some ⟨b, 0, none⟩), .int .u64 n] w fun e w' => e = .returned (.pointer (some ⟨b, 0, none⟩)) ∧ ItPost w b n w' := by
  have HB := Lib.hid hb
  clear hb
  go_enter Tryd.func26, Tryd.ntmps26
  go_wp2_with fail
  refine (natOf_any n hn w).mono ?_
  rintro e w1 ⟨v, rfl, hN, hB⟩
  obtain ⟨A1, c1_, rfl, hq1, hq2⟩ := hN.form
  clear hq1 hq2
  have HP := Lib.hid (it_put HB.out hN hB)
  obtain ⟨c0, c1, f0, f1⟩ := it_cells ((hB.block b (blk_lt HB.out)).trans HB.out)
  clear hN hB
  go_wp2
  go_ret
  exact ⟨rfl, HP.out.1⟩

set_option maxHeartbeats 1000000 in
set_option maxRecDepth 100000 in
theorem lsh7_int (b bx n : Nat) (hn : n < lim) (S : Nat → Prop) (x y : Value) (w : World) (hb : w.heap[b]? = some (.cells #[x, y] 66 (0, 0))) (hx : It w bx n S) :
    Calls Tryd.prog 27 #[.pointer (some ⟨b, 0, none⟩), .pointer (some ⟨bx, 0, none⟩), .int .u64 7] w fun e w' => e = .returned (.pointer (some ⟨b, 0, none⟩)) ∧ ItPost w b (n * 128) w' := by
  obtain ⟨v0, hx0, hxN⟩ := hx
  have HB := Lib.hid hb
  have HX := Lib.hid hx0
  have HXN := Lib.hid hxN
  obtain ⟨d0, d1, _, _⟩ := it_cells hx0
  clear hb hx0 hxN
  go_enter Tryd.func27, Tryd.ntmps27
  go_wp2
  go_region_with (go_at_call 42; refine (lsh7_any n hn v0 S _ ?_).mono ?_; exact Kd.V_drew HXN.out; rintro e w1 ⟨v, rfl, hN, hB⟩; obtain ⟨A1, c1_, rfl, hq1, hq2⟩ := hN.form; clear hq1 hq2; obtain ⟨c0, c1, f0, f1⟩ := it_cells ((hB.block b (blk_lt HB.out)).trans HB.out); obtain ⟨d0', d1', _, _⟩ := it_cells ((hB.block bx (blk_lt HX.out)).trans HX.out); have HP := Lib.hid (it_put (w := w.drew) HB.out hN hB); clear hN hB)
  all_goals (go_wp2; go_ret; refine ⟨rfl, ?_⟩; first | exact HP.out.1.of_drew | exact HP.out.2.of_drew | trace_state)
end Go.Proofs.YtiopgkdldkkonaaDoor

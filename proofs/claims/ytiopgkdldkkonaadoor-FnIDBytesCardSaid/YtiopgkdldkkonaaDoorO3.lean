/-
  WALKS: calm over OIDBytes' closure; OIDBytes.
-/
import Derived.Test.YtiopgkdldkkonaaDoorO2
namespace Go.Proofs.YtiopgkdldkkonaaDoor
open Go.RowKit Go.Proofs.YtiopgkdldkkonaaDoorW.PrintWords Go.Proofs.YtiopgkdldkkonaaDoor.Num Go.Proofs.YtiopgkdldkkonaaDoor.Pn
set_option linter.unusedVariables false
set_option linter.unusedSimpArgs false

theorem recov_idle (p : Addr) (w : World) :
    CallsD Tryd.prog 22 #[.pointer (some p)] .returning w fun e u' w' => e = .returned (.tuple #[]) ∧ u' = .returning ∧ w' = w := by
  refine callsD_of_wpS Tryd.func22 rfl fun c₀ cs hu => ?_
  apply wpS_seq
  apply wpS_region
  simp [wpOpsS, go_sem, recoverD, hu, Tryd.ntmps22, Exit.thenS]
  refine wpS_cond (t := false) (by simp [Act.eval, Array.replicate]) ?_
  simp only [Bool.false_eq_true, if_false]
  refine wpS_of_wp (wp_skip ?_)
  cases c₀
  simp_all [bodyPostS, results, Tryd.results22]

set_option maxHeartbeats 4000000 in
set_option maxRecDepth 100000 in
theorem calm_any (b0 b1 b2 b3 : Nat) (x1 x2 x3 : Value) (l : List UInt8) (hl : l.length ≤ 900) (A : Option Addr) (c : Nat) (w : World) (h0 : w.heap[b0]? = some (.cells #[.slice A l.length c] 23 (0, 0)))
    (h1 : w.heap[b1]? = some (.cells #[x1] 9 (0, 0))) (h2 : w.heap[b2]? = some (.cells #[x2] 23 (0, 0))) (h3 : w.heap[b3]? = some (.cells #[x3] 4 (0, 0)))
    (hC : (Kd.int .u8).C w A l.length (ints l)) (htab : Lib.TabIs Tryd.prog w "internal/strconv.uint64pow10" .u64 Lib.pow10Tab) :
    Calls Tryd.prog 12 #[.func (.func 13) #[] #[.pointer (some ⟨b0, 0, none⟩), .pointer (some ⟨b1, 0, none⟩), .pointer (some ⟨b2, 0, none⟩), .pointer (some ⟨b3, 0, none⟩)]] w fun e w' => e = .returned (.bool true) ∧ ClPost w b1 b2 b3 l w' := by
  have hmf : ∀ (fn : Fn) (first cap : Array Value) (w : World), (Instr.makeFunc fn first cap).run Tryd.prog w = .ok (.func fn first cap) w := fun _ _ _ _ => rfl
  have H0 := Lib.hid h0
  have H1 := Lib.hid h1
  have H2 := Lib.hid h2
  have H3 := Lib.hid h3
  have HC := Lib.hid hC
  have HT := Lib.hid htab
  clear h0 h1 h2 h3 hC htab
  go_enter_defers Tryd.func12, Tryd.ntmps12
  go_wp2_with fail
  have old : ∀ {k : Nat} {o : Obj}, w.heap[k]? = some o → (w.alloc (.cells #[.bool false] 4)).heap[k]? = some o := fun h => (Below.heap_alloc w _ _ (blk_lt h)).trans h
  refine (closure_any b0 b1 b2 b3 x1 x2 x3 l hl A c (w.alloc (.cells #[.bool false] 4)) (old H0.out) (old H1.out) (old H2.out) (old H3.out) (Kd.C_below HC.out ((Below.refl _ _).alloc (Nat.le_refl _) _)) (Lib.tabIs_alloc HT.out _)).mono ?_
  rintro e w1 ⟨rfl, hch, hP⟩
  have l1 := blk_lt H1.out
  have l2 := blk_lt H2.out
  have l3 := blk_lt H3.out
  have hr : w1.heap[w.heap.size]? = some (.cells #[.bool false] 4 (0, 0)) := hch.blk (heap_alloc_new w _) (fun h => by rcases h with h | h | h <;> omega)
  have k0 : w1.cell? ⟨w.heap.size, 0, none⟩ = some (.bool false) := by rw [Lib.cell_of_heap hr]; rfl
  have f0 : w1.frozen? ⟨w.heap.size, 0, none⟩ = false := Lib.frozen_of_heap hr 0
  have hfar : ∀ k, k < w.heap.size → (w1.setCell ⟨w.heap.size, 0, none⟩ (.bool true)).heap[k]? = w1.heap[k]? := fun k hk => Below.heap_setCell w1 ⟨w.heap.size, 0, none⟩ _ k (by simp; omega)
  have HP : Hid (ClPost w b1 b2 b3 l (w1.setCell ⟨w.heap.size, 0, none⟩ (.bool true)) ∧ (w1.setCell ⟨w.heap.size, 0, none⟩ (.bool true)).heap[w.heap.size]? = some (.cells #[.bool true] 4 (0, 0))) := Lib.hid (by
    refine ⟨⟨?_, ?_⟩, (blk_set hr 0 (.bool true)).trans rfl⟩
    · exact (((Ch.refl w _).alloc _).same hch).setCell ⟨w.heap.size, 0, none⟩ (fun h => by simp at h) _
    · by_cases ho : okBytes l = true
      · rw [if_pos ho] at hP ⊢
        obtain ⟨A1, c1, q1, q2, q3, hR⟩ := hP
        exact ⟨A1, c1, (hfar _ l1).trans q1, (hfar _ l2).trans q2, (hfar _ l3).trans q3, Kd.R_set (Kd.R_lower hR (by simp)) hr (by intro q hq; simp [Kd.int, Kd.scalar] at hq; subst hq; decide) 0 (.bool true)⟩
      · rw [if_neg ho] at hP ⊢
        obtain ⟨q1, q2, q3⟩ := hP
        exact ⟨(hfar _ l1).trans (q1.trans (Below.heap_alloc w _ _ l1)), (hfar _ l2).trans (q2.trans (Below.heap_alloc w _ _ l2)), (hfar _ l3).trans (q3.trans (Below.heap_alloc w _ _ l3))⟩)
  clear hch hP hr hfar old l1 l2 l3
  go_wp2
  have k1 : (w1.setCell ⟨w.heap.size, 0, none⟩ (.bool true)).cell? ⟨w.heap.size, 0, none⟩ = some (.bool true) := by rw [Lib.cell_of_heap HP.out.2]; rfl
  refine leaves_cons (f := 22) (args := #[.pointer (some ⟨w.heap.size, 0, none⟩)]) (by simp) (by simp [go_sem]) ?_
  refine (recov_idle ⟨w.heap.size, 0, none⟩ _).mono ?_
  rintro e u' w'' ⟨rfl, rfl, rfl⟩
  simp [Leaves, settle, results, Tryd.results12, go_sem, k1]
  exact HP.out.1

theorem setCell_same {w : World} {b T : Nat} {v : Value} (h : w.heap[b]? = some (.cells #[v] T (0, 0))) : w.setCell ⟨b, 0, none⟩ v = w := by
  have hh : (w.setCell ⟨b, 0, none⟩ v).heap = w.heap := by
    apply Array.ext_getElem?
    intro i
    by_cases e : i = b
    · subst e; rw [blk_set h 0 v, h]; rfl
    · exact Below.heap_setCell w ⟨b, 0, none⟩ v i e
  cases w
  simp only [World.setCell] at hh ⊢
  rw [hh]

/-- What OIDBytes answers. -/
def ObPost (w : World) (l : List UInt8) (e : Ending) (w' : World) : Prop :=
  Below w.heap.size w w' ∧ if okBytes l = true then ∃ A c, e = .returned (.tuple #[.string ⟨(oidText l).toArray⟩, .slice A l.length c, .bool true]) ∧ Kd.R (Kd.int .u8) 5 w' w.heap.size (fun _ => True) (.slice A l.length c) (ints l)
  else e = .returned (.tuple #[.string ByteArray.empty, .slice none 0 0, .bool false])

set_option maxHeartbeats 4000000 in
set_option maxRecDepth 100000 in
theorem oidBytes_any (l : List UInt8) (hl : l.length ≤ 900) (A : Option Addr) (c : Nat) (w : World) (hC : (Kd.int .u8).C w A l.length (ints l)) (htab : Lib.TabIs Tryd.prog w "internal/strconv.uint64pow10" .u64 Lib.pow10Tab) :
    Calls Tryd.prog 5 #[.slice A l.length c] w fun e w' => ObPost w l e w' := by
  have hmf : ∀ (fn : Fn) (first cap : Array Value) (w : World), (Instr.makeFunc fn first cap).run Tryd.prog w = .ok (.func fn first cap) w := fun _ _ _ _ => rfl
  have HC := Lib.hid hC
  have HT := Lib.hid htab
  have hl' : ¬ (1000 < (l.length : Int)) := by omega
  clear hC htab
  go_enter Tryd.func5, Tryd.ntmps5
  go_wp2_with fail
  obtain ⟨W1, hW1⟩ : ∃ W1, W1 = w.alloc (.cells #[.slice A l.length c] 23) := ⟨_, rfl⟩
  obtain ⟨W2, hW2⟩ : ∃ W2, W2 = W1.alloc (.cells #[.string { data := #[] }] 9) := ⟨_, rfl⟩
  obtain ⟨W3, hW3⟩ : ∃ W3, W3 = W2.alloc (.cells #[.slice none 0 0] 23) := ⟨_, rfl⟩
  obtain ⟨W4, hW4⟩ : ∃ W4, W4 = W3.alloc (.cells #[.bool false] 4) := ⟨_, rfl⟩
  have s1 : W1.heap.size = w.heap.size + 1 := by rw [hW1]; simp
  have s2 : W2.heap.size = w.heap.size + 1 + 1 := by rw [hW2]; simp [s1]
  have s3 : W3.heap.size = w.heap.size + 1 + 1 + 1 := by rw [hW3]; simp [s2]
  have s4 : W4.heap.size = w.heap.size + 1 + 1 + 1 + 1 := by rw [hW4]; simp [s3]
  have n1 : W1.heap[w.heap.size]? = some (.cells #[.slice A l.length c] 23 (0, 0)) := by rw [hW1]; exact heap_alloc_new w _
  have n2 : W2.heap[w.heap.size + 1]? = some (.cells #[.string { data := #[] }] 9 (0, 0)) := by rw [hW2, ← s1]; exact heap_alloc_new W1 _
  have n3 : W3.heap[w.heap.size + 1 + 1]? = some (.cells #[.slice none 0 0] 23 (0, 0)) := by rw [hW3, ← s2]; exact heap_alloc_new W2 _
  have n4 : W4.heap[w.heap.size + 1 + 1 + 1]? = some (.cells #[.bool false] 4 (0, 0)) := by rw [hW4, ← s3]; exact heap_alloc_new W3 _
  have b12 : Below W1.heap.size W1 W2 := by rw [hW2]; exact (Below.refl _ W1).alloc (Nat.le_refl _) _
  have b23 : Below W2.heap.size W2 W3 := by rw [hW3]; exact (Below.refl _ W2).alloc (Nat.le_refl _) _
  have b34 : Below W3.heap.size W3 W4 := by rw [hW4]; exact (Below.refl _ W3).alloc (Nat.le_refl _) _
  have b01 : Below w.heap.size w W1 := by rw [hW1]; exact (Below.refl _ w).alloc (Nat.le_refl _) _
  have b04 : Below w.heap.size w W4 := below_then (below_then (below_then b01 (by omega) b12) (by omega) b23) (by omega) b34
  have t4 : Lib.TabIs Tryd.prog W4 "internal/strconv.uint64pow10" .u64 Lib.pow10Tab := tabIs_below HT.out b04
  have m3 := (b34.block _ (blk_lt n3)).trans n3
  have m2 := (b34.block _ (by omega)).trans ((b23.block _ (blk_lt n2)).trans n2)
  have m1 := (b34.block _ (by omega)).trans ((b23.block _ (by omega)).trans ((b12.block _ (blk_lt n1)).trans n1))
  have hc4 := Kd.C_below HC.out b04
  rw [← hW1, ← hW2, ← hW3, ← hW4]
  refine (calm_any _ _ _ _ _ _ _ l hl A c W4 m1 m2 m3 n4 hc4 t4).mono ?_
  rintro e w1 ⟨rfl, hch, hP⟩
  have HB : Hid (Below w.heap.size w w1) := Lib.hid (b04.trans (hch.below (by omega) (fun k hk => by omega)))
  have HM := Lib.hid (And.intro m2 (And.intro m3 n4))
  have HS := Lib.hid s4
  clear hW1 hW2 hW3 hW4 n1 n2 n3 b12 b23 b34 b01 b04 t4 m1 m2 m3 n4 hc4 hch s1 s2 s3 s4
  generalize hg1 : w.heap.size + 1 = g1 at *
  generalize hg2 : g1 + 1 = g2 at *
  generalize hg3 : g2 + 1 = g3 at *
  have HG := Lib.hid (And.intro hg1 (And.intro hg2 hg3))
  clear hg1 hg2 hg3
  by_cases ho : okBytes l = true
  · rw [if_pos ho] at hP
    obtain ⟨A1, c1, q1, q2, q3, hR⟩ := hP
    have HQ := Lib.hid (And.intro q1 (And.intro q2 q3))
    have HR := Lib.hid hR
    have c1' : w1.cell? ⟨g1, 0, none⟩ = some (.string ⟨(oidText l).toArray⟩) := by rw [Lib.cell_of_heap q1]; rfl
    have c2' : w1.cell? ⟨g2, 0, none⟩ = some (.slice A1 l.length c1) := by rw [Lib.cell_of_heap q2]; rfl
    have c3' : w1.cell? ⟨g3, 0, none⟩ = some (.bool true) := by rw [Lib.cell_of_heap q3]; rfl
    have f1 : w1.frozen? ⟨g1, 0, none⟩ = false := Lib.frozen_of_heap q1 0
    have f2 : w1.frozen? ⟨g2, 0, none⟩ = false := Lib.frozen_of_heap q2 0
    have e1 := setCell_same q1
    have e2 := setCell_same q2
    clear q1 q2 q3 hR
    go_wp2
    go_region
    go_wp2
    refine bodyPost_ret (v := .tuple #[.string ⟨(oidText l).toArray⟩, .slice A1 l.length c1, .bool true]) (by simp [results, Tryd.results5, go_sem, c1', c2']) rfl ?_
    refine ⟨⟨HB.out.os, HB.out.tape, HB.out.output, HB.out.size, HB.out.block⟩, ?_⟩
    rw [if_pos ho]
    exact ⟨A1, c1, rfl, Kd.R_drew (Kd.R_lower HR.out (by have := HS.out; have := HG.out.1; have := HG.out.2.1; have := HG.out.2.2; omega))⟩
  · rw [if_neg ho] at hP
    obtain ⟨q1, q2, q3⟩ := hP
    rw [HM.out.1] at q1
    rw [HM.out.2.1] at q2
    rw [HM.out.2.2] at q3
    have c1' : w1.cell? ⟨g1, 0, none⟩ = some (.string { data := #[] }) := by rw [Lib.cell_of_heap q1]; rfl
    have c2' : w1.cell? ⟨g2, 0, none⟩ = some (.slice none 0 0) := by rw [Lib.cell_of_heap q2]; rfl
    have c3' : w1.cell? ⟨g3, 0, none⟩ = some (.bool false) := by rw [Lib.cell_of_heap q3]; rfl
    have f1 : w1.frozen? ⟨g1, 0, none⟩ = false := Lib.frozen_of_heap q1 0
    have f2 : w1.frozen? ⟨g2, 0, none⟩ = false := Lib.frozen_of_heap q2 0
    have e1 := setCell_same q1
    have e2 := setCell_same q2
    clear q1 q2 q3
    go_wp2
    go_region
    go_wp2
    refine bodyPost_ret (v := .tuple #[.string { data := #[] }, .slice none 0 0, .bool false]) (by simp [results, Tryd.results5, go_sem, c1', c2']) rfl ?_
    refine ⟨⟨HB.out.os, HB.out.tape, HB.out.output, HB.out.size, HB.out.block⟩, ?_⟩
    rw [if_neg ho]
    rfl
end Go.Proofs.YtiopgkdldkkonaaDoor

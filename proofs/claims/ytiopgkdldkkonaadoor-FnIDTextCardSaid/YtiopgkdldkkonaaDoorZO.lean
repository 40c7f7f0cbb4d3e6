/-
  WALKS: UnmarshalBinary; MarshalBinary as a law on bytes.
  WALKS: OIDBytes' closure; calm.
  WALKS: calm over OIDBytes' closure; OIDBytes.
-/
import Derived.Test.YtiopgkdldkkonaaDoorZS
import Derived.Test.YtiopgkdldkkonaaDoorZV
import Derived.Test.YtiopgkdldkkonaaDoorZP7
import Derived.Defers
import Derived.Recover
namespace Go.Proofs.YtiopgkdldkkonaaDoor
open Go.RowKit Go.Proofs.YtiopgkdldkkonaaDoorW.PrintWords Go.Proofs.YtiopgkdldkkonaaDoor.Num Go.Proofs.YtiopgkdldkkonaaDoor.Pn
set_option linter.unusedVariables false
set_option linter.unusedSimpArgs false

def badOID : Value := .iface 56 (.string ⟨#[105, 110, 118, 97, 108, 105, 100, 32, 111, 105, 100]⟩)
/-- What UnmarshalBinary leaves. -/
def UnPost (w : World) (b : Nat) (l : List UInt8) (e : Ending) (w' : World) : Prop :=
  if okBytes l = true then e = .returned .nilIface ∧ ∃ A c, w'.heap[b]? = some (.cells #[.slice A l.length c] 39 (0, 0)) ∧ Kd.R (Kd.int .u8) 5 w' w.heap.size (fun _ => True) (.slice A l.length c) (ints l) ∧ Ch w w' (fun k => k = b)
  else e = .returned badOID ∧ Below w.heap.size w w'

theorem c8_below {w w1 : World} {A : Option Addr} {n : Nat} {l : List Int} (h : (Kd.int .u8).C w A n l) (hb : Below w.heap.size w w1) : (Kd.int .u8).C w1 A n l := Kd.C_below h hb

theorem newOID_any (l : List UInt8) (hl : l.length ≤ 1000) (v : Value) (w0 w : World) (hB : Below w0.heap.size w0 w) (h : Kd.R (Kd.int .u8) 5 w w0.heap.size (fun _ => True) v (ints l)) :
    Calls Tryd.prog 23 #[v] w fun e w' => ∃ v0 : Value, e = .returned (.tuple #[.agg #[v0], .bool (okBytes l)]) ∧ Kd.R (Kd.int .u8) 5 w' w0.heap.size (fun _ => True) v0 (if okBytes l = true then ints l else []) ∧ Below w0.heap.size w0 w' := by
  obtain ⟨k, hk⟩ := (newOID_f l (by omega)).rounds
  unfold oidOut at hk
  by_cases ho : okBytes l = true
  · rw [if_pos ho] at hk
    refine (x509_newOIDFromDER.calls k _ v (ints l) (ints l) true w0 w hB h hk).mono ?_
    rintro e w' ⟨v0, he, h1, h2, h3⟩
    rw [ho, if_pos rfl]
    exact ⟨v0, he, Kd.R_mono h1 (fun _ _ => trivial), h2⟩
  · rw [if_neg ho] at hk
    refine (x509_newOIDFromDER.calls k _ v (ints l) [] false w0 w hB h hk).mono ?_
    rintro e w' ⟨v0, he, h1, h2, h3⟩
    rw [Bool.eq_false_iff.2 ho, if_neg (by simp)]
    exact ⟨v0, he, Kd.R_mono h1 (fun _ _ => trivial), h2⟩

set_option maxHeartbeats 4000000 in
set_option maxRecDepth 100000 in
theorem unmarshal_any (b : Nat) (x : Value) (l : List UInt8) (hl : l.length ≤ 1000) (A : Option Addr) (c : Nat) (w : World) (hb : w.heap[b]? = some (.cells #[x] 39 (0, 0))) (hC : (Kd.int .u8).C w A l.length (ints l)) :
    Calls Tryd.prog 14 #[.pointer (some ⟨b, 0, none⟩), .slice A l.length c] w fun e w' => UnPost w b l e w' := by
  have hu39 := Tryd.underlying39
  have HC := Lib.hid hC
  have HB := Lib.hid hb
  clear hC hb
  go_enter Tryd.func14, Tryd.ntmps14
  go_wp2_with (at_builtin; refine Kd.R_append_row (Value.int .u8) 0 (h1 := fun _ => rfl) (w0 := w) w.heap.size rfl (.const (.slice none 0 0)) (.tmp 8) 23 5 (.int .u8 0) 1 rfl Tryd.underlying23 info5 rfl (by decide) (.slice none 0 0) [] (ints l) A l.length c (fun _ => True) rfl rfl (fun _ _ => trivial) (Kd.R_nil _ _ _ _ _) HC.out (Below.refl _ _) (Nat.le_refl _) (by simp; omega) ?_)
  intro v1 w1 h1 hB1 hg1 hat1
  obtain ⟨A1, c1, rfl⟩ := Kd.R_slice h1
  have H1 := Lib.hid (And.intro h1 hB1)
  clear h1 hB1 hg1 hat1 HC
  go_wp2_with fail
  refine (newOID_any l hl _ w w1 H1.out.2 H1.out.1).mono ?_
  rintro e w2 ⟨v0, rfl, h2, hB2⟩
  obtain ⟨A2, c2, hv2, hc2, hC2⟩ := Kd.R_reads h2
  by_cases ho : okBytes l = true
  · rw [if_pos ho] at hv2 hc2 hC2 h2
    rw [ho]
    rw [ints_len] at hv2 hc2 hC2
    subst hv2
    have hb2 := (hB2.block b (blk_lt HB.out)).trans HB.out
    have H2 := Lib.hid (And.intro hB2 h2)
    have hlt2 : b < w2.heap.size := blk_lt hb2
    have e0 : ∀ o, (w2.alloc o).cell? ⟨b, 0, none⟩ = some x := fun o => by rw [World.cell?_alloc_old _ _ _ (Nat.ne_of_lt hlt2), Lib.cell_of_heap hb2]; rfl
    have f0 : ∀ o, (w2.alloc o).frozen? ⟨b, 0, none⟩ = false := fun o => by
      rw [Lib.frozen_of_heap (w := w2.alloc o) (b := b) ((Below.heap_alloc w2 o b hlt2).trans hb2) 0]
    have HB2 := Lib.hid hb2
    clear hB2 hC2 hc2 h2 hb2
    go_wp2
    go_ret
    have hb3 : ((w2.setCell ⟨b, 0, none⟩ (.slice A2 l.length c2)).alloc (.cells #[.slice A2 l.length c2] 39)).heap[b]? = some (.cells #[.slice A2 l.length c2] 39 (0, 0)) := by
      rw [Below.heap_alloc _ _ b (by simpa [World.setCell] using hlt2)]
      simp [World.setCell, Array.getElem?_modify, HB2.out]
    have hR3 := Kd.R_alloc (o := .cells #[.slice A2 l.length c2] 39) (Kd.R_set H2.out.2 HB2.out (by intro q hq; simp [Kd.int, Kd.scalar] at hq; subst hq; decide) 0 (.slice A2 l.length c2))
    unfold UnPost
    rw [if_pos ho]
    exact ⟨rfl, A2, c2, hb3, hR3, ((Ch.of_below' H2.out.1 (fun k => k = b)).setCell ⟨b, 0, none⟩ (fun _ => rfl) _).alloc _⟩
  · rw [if_neg ho] at hv2
    rw [Bool.eq_false_iff.2 ho]
    subst hv2
    have H2 := Lib.hid hB2
    clear hB2 hC2 hc2 h2
    go_wp2
    go_ret
    unfold UnPost
    rw [if_neg ho]
    exact ⟨rfl, H2.out.alloc H2.out.size _⟩

theorem c8_of_R {w : World} {base : Nat} {ok : Nat → Prop} {A : Option Addr} {c : Nat} {l : List UInt8} (h : Kd.R (Kd.int .u8) 5 w base ok (.slice A l.length c) (ints l)) : l.length ≤ c ∧ (Kd.int .u8).C w A l.length (ints l) := by
  obtain ⟨A1, c1, hv, hc, hC⟩ := Kd.R_reads h
  rw [ints_len] at hv hc hC
  injection hv with e1 e2 e3
  subst e1; subst e3
  exact ⟨hc, hC⟩

theorem marshal_any (l : List UInt8) (hl : l.length ≤ 1000) (A : Option Addr) (c : Nat) (hc : l.length ≤ c) (w : World) (hC : (Kd.int .u8).C w A l.length (ints l)) :
    Calls Tryd.prog 16 #[.agg #[.slice A l.length c]] w fun e w' => ∃ A1 c1, e = .returned (.tuple #[.slice A1 l.length c1, .nilIface]) ∧ Kd.R (Kd.int .u8) 5 w' w.heap.size (fun _ => True) (.slice A1 l.length c1) (ints l) ∧ Below w.heap.size w w' := by
  have h := x509_OID_MarshalBinary.calls A c (ints l) (ints l) none w (by rw [ints_len]; exact hC) (by rw [ints_len]; exact hc) (by
    unfold x509_OID_MarshalBinary.f x509_OID_AppendBinary.f
    rw [if_pos (by rw [ints_len]; simp; omega)]; simp)
  rw [ints_len] at h
  refine h.mono ?_
  rintro e w' ⟨v0, rfl, hR, hB⟩
  obtain ⟨A1, c1, rfl⟩ := Kd.R_slice hR
  rw [ints_len] at hR ⊢
  exact ⟨A1, c1, rfl, hR, hB⟩
end Go.Proofs.YtiopgkdldkkonaaDoor
namespace Go.Proofs.YtiopgkdldkkonaaDoor
open Go.RowKit Go.Proofs.YtiopgkdldkkonaaDoorW.PrintWords Go.Proofs.YtiopgkdldkkonaaDoor.Num Go.Proofs.YtiopgkdldkkonaaDoor.Pn
set_option linter.unusedVariables false
set_option linter.unusedSimpArgs false

theorem c8_some {w : World} {A : Option Addr} {n : Nat} {l : List UInt8} (h : (Kd.int .u8).C w A n (ints l)) (hl : l ≠ []) :
    ∃ ad, A = some ad ∧ ∀ j u, (Lib.byteCells l)[j]? = some u → w.cell? (ad.add j) = some u := (c8_cells h hl).2
theorem okBytes_ne {l : List UInt8} (h : okBytes l = true) : l ≠ [] := by
  intro e; subst e; simp [okBytes] at h

/-- What the closure leaves. -/
def ClPost (w : World) (b1 b2 b3 : Nat) (l : List UInt8) (w' : World) : Prop :=
  Ch w w' (fun k => k = b1 ∨ k = b2 ∨ k = b3) ∧
  if okBytes l = true then ∃ A c, w'.heap[b1]? = some (.cells #[.string ⟨(oidText l).toArray⟩] 9 (0, 0)) ∧ w'.heap[b2]? = some (.cells #[.slice A l.length c] 23 (0, 0)) ∧ w'.heap[b3]? = some (.cells #[.bool true] 4 (0, 0)) ∧ Kd.R (Kd.int .u8) 5 w' w.heap.size (fun _ => True) (.slice A l.length c) (ints l)
  else w'.heap[b1]? = w.heap[b1]? ∧ w'.heap[b2]? = w.heap[b2]? ∧ w'.heap[b3]? = w.heap[b3]?

set_option maxHeartbeats 4000000 in
set_option maxRecDepth 100000 in
theorem closure_any (b0 b1 b2 b3 : Nat) (x1 x2 x3 : Value) (l : List UInt8) (hl : l.length ≤ 900) (A : Option Addr) (c : Nat) (w : World) (h0 : w.heap[b0]? = some (.cells #[.slice A l.length c] 23 (0, 0)))
    (h1 : w.heap[b1]? = some (.cells #[x1] 9 (0, 0))) (h2 : w.heap[b2]? = some (.cells #[x2] 23 (0, 0))) (h3 : w.heap[b3]? = some (.cells #[x3] 4 (0, 0)))
    (hC : (Kd.int .u8).C w A l.length (ints l)) (htab : Lib.TabIs Tryd.prog w "internal/strconv.uint64pow10" .u64 Lib.pow10Tab) :
    Calls Tryd.prog 13 #[.pointer (some ⟨b0, 0, none⟩), .pointer (some ⟨b1, 0, none⟩), .pointer (some ⟨b2, 0, none⟩), .pointer (some ⟨b3, 0, none⟩)] w fun e w' => e = .returned (.tuple #[]) ∧ ClPost w b1 b2 b3 l w' := by
  have hu39 := Tryd.underlying39
  have H0 := Lib.hid h0
  have H1 := Lib.hid h1
  have H2 := Lib.hid h2
  have H3 := Lib.hid h3
  have HC := Lib.hid hC
  have HT := Lib.hid htab
  have l0 := blk_lt h0
  have e0 : ∀ o, (w.alloc o).cell? ⟨b0, 0, none⟩ = some (.slice A l.length c) := fun o => by rw [World.cell?_alloc_old _ _ _ (Nat.ne_of_lt l0), Lib.cell_of_heap h0]; rfl
  clear h0 h1 h2 h3 hC htab
  go_enter Tryd.func13, Tryd.ntmps13
  go_wp2_with fail
  refine (unmarshal_any w.heap.size (.slice none 0 0) l (by omega) A c _ (heap_alloc_new w _) (Kd.C_below HC.out ((Below.refl _ _).alloc (Nat.le_refl _) _))).mono ?_
  rintro e w1 hU
  unfold UnPost at hU
  by_cases ho : okBytes l = true
  · rw [if_pos ho] at hU
    obtain ⟨rfl, A1, c1, hb1, hR1, hCh1⟩ := hU
    obtain ⟨ad, rfl, hcl⟩ := c8_some (c8_of_R hR1).2 (okBytes_ne ho)
    have hch : Ch w w1 (fun _ => False) := ((Ch.refl w (fun _ => False)).alloc _).trans hCh1 (fun i hi e => by omega)
    have HCH := Lib.hid hch
    have HR1 := Lib.hid (Kd.R_lower hR1 (show w.heap.size ≤ _ from by simp))
    have HB1 := Lib.hid hb1
    have HCL := Lib.hid hcl
    have d1 : w1.cell? ⟨w.heap.size, 0, none⟩ = some (.slice (some ad) l.length c1) := by rw [Lib.cell_of_heap hb1]; rfl
    have hpos : 0 < l.length := List.length_pos_iff.2 (okBytes_ne ho)
    clear hb1 hR1 hCh1 hcl hch
    go_wp2_with fail
    refine (string_any l hl hpos ad c1 w1 HCL.out (tabIs_below HT.out (HCH.out.below (Nat.le_refl _) (fun _ h => h.elim)))).mono ?_
    rintro e w2 ⟨rfl, hB2⟩
    have hch2 : Ch w w2 (fun _ => False) := HCH.out.same (Ch.of_below' hB2 _)
    have hb12 := hch2.blk H1.out (fun h => h)
    have k1 : w2.cell? ⟨b1, 0, none⟩ = some x1 := by rw [Lib.cell_of_heap hb12]; rfl
    have k2 : w2.frozen? ⟨b1, 0, none⟩ = false := Lib.frozen_of_heap hb12 0
    have hne : w.heap.size ≠ b1 := by have := blk_lt H1.out; omega
    have hbo : (w2.setCell ⟨b1, 0, none⟩ (.string ⟨(oidText l).toArray⟩)).heap[w.heap.size]? = some (.cells #[.slice (some ad) l.length c1] 39 (0, 0)) := (Below.heap_setCell w2 ⟨b1, 0, none⟩ _ w.heap.size hne).trans ((hB2.block _ (blk_lt HB1.out)).trans HB1.out)
    have k3 : (w2.setCell ⟨b1, 0, none⟩ (.string ⟨(oidText l).toArray⟩)).cell? ⟨w.heap.size, 0, none⟩ = some (.slice (some ad) l.length c1) := by rw [Lib.cell_of_heap hbo]; rfl
    have HR2 := Lib.hid (Kd.R_set (Kd.R_below HR1.out hB2) hb12 (by intro q hq; simp [Kd.int, Kd.scalar] at hq; subst hq; decide) 0 (.string ⟨(oidText l).toArray⟩))
    have HCH2 := Lib.hid (hch2.mono (T := fun k => k = b1) (fun _ _ h => h.elim) |>.setCell ⟨b1, 0, none⟩ (fun _ => rfl) (.string ⟨(oidText l).toArray⟩))
    have HB12 : Hid ((w2.setCell ⟨b1, 0, none⟩ (.string ⟨(oidText l).toArray⟩)).heap[b1]? = some (.cells #[.string ⟨(oidText l).toArray⟩] 9 (0, 0))) := Lib.hid (by simp [World.setCell, Array.getElem?_modify, hb12])
    clear hB2 hch2 hb12 hbo hne
    generalize hW3 : w2.setCell ⟨b1, 0, none⟩ (.string ⟨(oidText l).toArray⟩) = W3 at *
    go_wp2_with fail
    refine (marshal_any l (by omega) (some ad) c1 (c8_of_R HR2.out).1 W3 (c8_of_R HR2.out).2).mono ?_
    rintro e w4 ⟨A4, c4, rfl, hR4, hB4⟩
    have hch4 : Ch w w4 (fun k => k = b1) := HCH2.out.same (Ch.of_below' hB4 _)
    have l1 := blk_lt H1.out
    have l2 := blk_lt H2.out
    have l3 := blk_lt H3.out
    have n12 : b2 ≠ b1 := blk_ne H2.out H1.out (by decide)
    have n13 : b3 ≠ b1 := blk_ne H3.out H1.out (by decide)
    have n23 : b3 ≠ b2 := blk_ne H3.out H2.out (by decide)
    have g1 := (hB4.block b1 (blk_lt HB12.out)).trans HB12.out
    have g2 := hch4.blk H2.out n12
    have g3 := hch4.blk H3.out n13
    have k4 : w4.cell? ⟨b2, 0, none⟩ = some x2 := by rw [Lib.cell_of_heap g2]; rfl
    have f4 : w4.frozen? ⟨b2, 0, none⟩ = false := Lib.frozen_of_heap g2 0
    have g3' : (w4.setCell ⟨b2, 0, none⟩ (.slice A4 l.length c4)).heap[b3]? = some (.cells #[x3] 4 (0, 0)) := (Below.heap_setCell w4 ⟨b2, 0, none⟩ _ b3 n23).trans g3
    have k5 : (w4.setCell ⟨b2, 0, none⟩ (.slice A4 l.length c4)).cell? ⟨b3, 0, none⟩ = some x3 := by rw [Lib.cell_of_heap g3']; rfl
    have f5 : (w4.setCell ⟨b2, 0, none⟩ (.slice A4 l.length c4)).frozen? ⟨b3, 0, none⟩ = false := Lib.frozen_of_heap g3' 0
    have g2' : (w4.setCell ⟨b2, 0, none⟩ (.slice A4 l.length c4)).heap[b2]? = some (.cells #[.slice A4 l.length c4] 23 (0, 0)) := by simp [World.setCell, Array.getElem?_modify, g2]
    have g1' : (w4.setCell ⟨b2, 0, none⟩ (.slice A4 l.length c4)).heap[b1]? = some (.cells #[.string ⟨(oidText l).toArray⟩] 9 (0, 0)) := (Below.heap_setCell w4 ⟨b2, 0, none⟩ _ b1 (fun e => n12 e.symm)).trans g1
    have r4 := Kd.R_set (Kd.R_lower hR4 HCH2.out.size) g2 (by intro q hq; simp [Kd.int, Kd.scalar] at hq; subst hq; decide) 0 (.slice A4 l.length c4)
    have r5 := Kd.R_set r4 g3' (by intro q hq; simp [Kd.int, Kd.scalar] at hq; subst hq; decide) 0 (.bool true)
    have cc4 : Ch w ((w4.setCell ⟨b2, 0, none⟩ (.slice A4 l.length c4)).setCell ⟨b3, 0, none⟩ (.bool true)) (fun k => k = b1 ∨ k = b2 ∨ k = b3) :=
      ((hch4.mono (T := fun k => k = b1 ∨ k = b2 ∨ k = b3) (fun _ _ h => .inl h)).setCell ⟨b2, 0, none⟩ (fun _ => .inr (.inl rfl)) _).setCell ⟨b3, 0, none⟩ (fun _ => .inr (.inr rfl)) _
    have HP : Hid (ClPost w b1 b2 b3 l ((w4.setCell ⟨b2, 0, none⟩ (.slice A4 l.length c4)).setCell ⟨b3, 0, none⟩ (.bool true))) := Lib.hid (by
      refine ⟨cc4, ?_⟩
      rw [if_pos ho]
      refine ⟨A4, c4, (Below.heap_setCell _ ⟨b3, 0, none⟩ _ b1 (fun e => n13 e.symm)).trans g1', (Below.heap_setCell _ ⟨b3, 0, none⟩ _ b2 (fun e => n23 e.symm)).trans g2', (blk_set g3' 0 (.bool true)).trans rfl, r5⟩)
    clear hR4 hB4 hch4 g1 g2 g3 g3' g2' g1' r4 r5 cc4 n12 n13 n23 l1 l2 l3 k3 hW3
    go_wp2
    go_end0
    exact ⟨rfl, HP.out⟩
  · rw [if_neg ho] at hU
    obtain ⟨rfl, hB1⟩ := hU
    have hB : Below w.heap.size w w1 := ((Below.refl w.heap.size w).alloc (Nat.le_refl _) _).trans (hB1.mono (by simp))
    have HP : Hid (ClPost w b1 b2 b3 l w1) := Lib.hid (by
      refine ⟨Ch.of_below' hB _, ?_⟩
      rw [if_neg ho]
      exact ⟨hB.block _ (blk_lt H1.out), hB.block _ (blk_lt H2.out), hB.block _ (blk_lt H3.out)⟩)
    unfold badOID
    clear hB hB1
    go_wp2
    refine bodyPost_ret (results_none rfl _ _ _) rfl ?_
    exact ⟨rfl, HP.out⟩
end Go.Proofs.YtiopgkdldkkonaaDoor
namespace Go.Proofs.YtiopgkdldkkonaaDoor
open Go.RowKit Go.Proofs.YtiopgkdldkkonaaDoorW.PrintWords Go.Proofs.YtiopgkdldkkonaaDoor.Num Go.Proofs.YtiopgkdldkkonaaDoor.Pn
set_option linter.unusedVariables false
set_option linter.unusedSimpArgs false

theorem recov_idle (p : Addr) (w : World) :
    CallsD Tryd.prog 22 #[.pointer (some p)] .returning w fun e u' w' => e = .returned (.tuple #[]) ∧ u' = .returning ∧ w' = w := by
  refine callsD_of_wpS Tryd.func22 rfl fun c₀ cs hu => ?_
  apply wpS_seq
  apply wpS_region
  simp [wpOpsS, go_sem, recoverD, hu, Tryd.ntmps22, Exit.thenS]
  refine wpS_cond (t := false) (by simp [Act.eval, Array.replicate]) ?_
  simp only [Bool.false_eq_true, if_false]
  refine wpS_of_wp (wp_skip ?_)
  cases c₀
  simp_all [bodyPostS, results, Tryd.results22]

set_option maxHeartbeats 4000000 in
set_option maxRecDepth 100000 in
theorem calm_any (b0 b1 b2 b3 : Nat) (x1 x2 x3 : Value) (l : List UInt8) (hl : l.length ≤ 900) (A : Option Addr) (c : Nat) (w : World) (h0 : w.heap[b0]? = some (.cells #[.slice A l.length c] 23 (0, 0)))
    (h1 : w.heap[b1]? = some (.cells #[x1] 9 (0, 0))) (h2 : w.heap[b2]? = some (.cells #[x2] 23 (0, 0))) (h3 : w.heap[b3]? = some (.cells #[x3] 4 (0, 0)))
    (hC : (Kd.int .u8).C w A l.length (ints l)) (htab : Lib.TabIs Tryd.prog w "internal/strconv.uint64pow10" .u64 Lib.pow10Tab) :
    Calls Tryd.prog 12 #[.func (.func 13) #[] #[.pointer (some ⟨b0, 0, none⟩), .pointer (some ⟨b1, 0, none⟩), .pointer (some ⟨b2, 0, none⟩), .pointer (some ⟨b3, 0, none⟩)]] w fun e w' => e = .returned (.bool true) ∧ ClPost w b1 b2 b3 l w' := by
  have hmf : ∀ (fn : Fn) (first cap : Array Value) (w : World), (Instr.makeFunc fn first cap).run Tryd.prog w = .ok (.func fn first cap) w := fun _ _ _ _ => rfl
  have H0 := Lib.hid h0
  have H1 := Lib.hid h1
  have H2 := Lib.hid h2
  have H3 := Lib.hid h3
  have HC := Lib.hid hC
  have HT := Lib.hid htab
  clear h0 h1 h2 h3 hC htab
  go_enter_defers Tryd.func12, Tryd.ntmps12
  go_wp2_with fail
  have old : ∀ {k : Nat} {o : Obj}, w.heap[k]? = some o → (w.alloc (.cells #[.bool false] 4)).heap[k]? = some o := fun h => (Below.heap_alloc w _ _ (blk_lt h)).trans h
  refine (closure_any b0 b1 b2 b3 x1 x2 x3 l hl A c (w.alloc (.cells #[.bool false] 4)) (old H0.out) (old H1.out) (old H2.out) (old H3.out) (Kd.C_below HC.out ((Below.refl _ _).alloc (Nat.le_refl _) _)) (Lib.tabIs_alloc HT.out _)).mono ?_
  rintro e w1 ⟨rfl, hch, hP⟩
  have l1 := blk_lt H1.out
  have l2 := blk_lt H2.out
  have l3 := blk_lt H3.out
  have hr : w1.heap[w.heap.size]? = some (.cells #[.bool false] 4 (0, 0)) := hch.blk (heap_alloc_new w _) (fun h => by rcases h with h | h | h <;> omega)
  have k0 : w1.cell? ⟨w.heap.size, 0, none⟩ = some (.bool false) := by rw [Lib.cell_of_heap hr]; rfl
  have f0 : w1.frozen? ⟨w.heap.size, 0, none⟩ = false := Lib.frozen_of_heap hr 0
  have hfar : ∀ k, k < w.heap.size → (w1.setCell ⟨w.heap.size, 0, none⟩ (.bool true)).heap[k]? = w1.heap[k]? := fun k hk => Below.heap_setCell w1 ⟨w.heap.size, 0, none⟩ _ k (by simp; omega)
  have HP : Hid (ClPost w b1 b2 b3 l (w1.setCell ⟨w.heap.size, 0, none⟩ (.bool true)) ∧ (w1.setCell ⟨w.heap.size, 0, none⟩ (.bool true)).heap[w.heap.size]? = some (.cells #[.bool true] 4 (0, 0))) := Lib.hid (by
    refine ⟨⟨?_, ?_⟩, (blk_set hr 0 (.bool true)).trans rfl⟩
    · exact (((Ch.refl w _).alloc _).same hch).setCell ⟨w.heap.size, 0, none⟩ (fun h => by simp at h) _
    · by_cases ho : okBytes l = true
      · rw [if_pos ho] at hP ⊢
        obtain ⟨A1, c1, q1, q2, q3, hR⟩ := hP
        exact ⟨A1, c1, (hfar _ l1).trans q1, (hfar _ l2).trans q2, (hfar _ l3).trans q3, Kd.R_set (Kd.R_lower hR (by simp)) hr (by intro q hq; simp [Kd.int, Kd.scalar] at hq; subst hq; decide) 0 (.bool true)⟩
      · rw [if_neg ho] at hP ⊢
        obtain ⟨q1, q2, q3⟩ := hP
        exact ⟨(hfar _ l1).trans (q1.trans (Below.heap_alloc w _ _ l1)), (hfar _ l2).trans (q2.trans (Below.heap_alloc w _ _ l2)), (hfar _ l3).trans (q3.trans (Below.heap_alloc w _ _ l3))⟩)
  clear hch hP hr hfar old l1 l2 l3
  go_wp2
  have k1 : (w1.setCell ⟨w.heap.size, 0, none⟩ (.bool true)).cell? ⟨w.heap.size, 0, none⟩ = some (.bool true) := by rw [Lib.cell_of_heap HP.out.2]; rfl
  refine leaves_cons (f := 22) (args := #[.pointer (some ⟨w.heap.size, 0, none⟩)]) (by simp) (by simp [go_sem]) ?_
  refine (recov_idle ⟨w.heap.size, 0, none⟩ _).mono ?_
  rintro e u' w'' ⟨rfl, rfl, rfl⟩
  simp [Leaves, settle, results, Tryd.results12, go_sem, k1]
  exact HP.out.1

theorem setCell_same {w : World} {b T : Nat} {v : Value} (h : w.heap[b]? = some (.cells #[v] T (0, 0))) : w.setCell ⟨b, 0, none⟩ v = w := by
  have hh : (w.setCell ⟨b, 0, none⟩ v).heap = w.heap := by
    apply Array.ext_getElem?
    intro i
    by_cases e : i = b
    · subst e; rw [blk_set h 0 v, h]; rfl
    · exact Below.heap_setCell w ⟨b, 0, none⟩ v i e
  cases w
  simp only [World.setCell] at hh ⊢
  rw [hh]

/-- What OIDBytes answers. -/
def ObPost (w : World) (l : List UInt8) (e : Ending) (w' : World) : Prop :=
  Below w.heap.size w w' ∧ if okBytes l = true then ∃ A c, e = .returned (.tuple #[.string ⟨(oidText l).toArray⟩, .slice A l.length c, .bool true]) ∧ Kd.R (Kd.int .u8) 5 w' w.heap.size (fun _ => True) (.slice A l.length c) (ints l)
  else e = .returned (.tuple #[.string ByteArray.empty, .slice none 0 0, .bool false])

set_option maxHeartbeats 4000000 in
set_option maxRecDepth 100000 in
theorem oidBytes_any (l : List UInt8) (hl : l.length ≤ 900) (A : Option Addr) (c : Nat) (w : World) (hC : (Kd.int .u8).C w A l.length (ints l)) (htab : Lib.TabIs Tryd.prog w "internal/strconv.uint64pow10" .u64 Lib.pow10Tab) :
    Calls Tryd.prog 5 #[.slice A l.length c] w fun e w' => ObPost w l e w' := by
  have hmf : ∀ (fn : Fn) (first cap : Array Value) (w : World), (Instr.makeFunc fn first cap).run Tryd.prog w = .ok (.func fn first cap) w := fun _ _ _ _ => rfl
  have HC := Lib.hid hC
  have HT := Lib.hid htab
  have hl' : ¬ (1000 < (l.length : Int)) := by omega
  clear hC htab
  go_enter Tryd.func5, Tryd.ntmps5
  go_wp2_with fail
  obtain ⟨W1, hW1⟩ : ∃ W1, W1 = w.alloc (.cells #[.slice A l.length c] 23) := ⟨_, rfl⟩
  obtain ⟨W2, hW2⟩ : ∃ W2, W2 = W1.alloc (.cells #[.string { data := #[] }] 9) := ⟨_, rfl⟩
  obtain ⟨W3, hW3⟩ : ∃ W3, W3 = W2.alloc (.cells #[.slice none 0 0] 23) := ⟨_, rfl⟩
  obtain ⟨W4, hW4⟩ : ∃ W4, W4 = W3.alloc (.cells #[.bool false] 4) := ⟨_, rfl⟩
  have s1 : W1.heap.size = w.heap.size + 1 := by rw [hW1]; simp
  have s2 : W2.heap.size = w.heap.size + 1 + 1 := by rw [hW2]; simp [s1]
  have s3 : W3.heap.size = w.heap.size + 1 + 1 + 1 := by rw [hW3]; simp [s2]
  have s4 : W4.heap.size = w.heap.size + 1 + 1 + 1 + 1 := by rw [hW4]; simp [s3]
  have n1 : W1.heap[w.heap.size]? = some (.cells #[.slice A l.length c] 23 (0, 0)) := by rw [hW1]; exact heap_alloc_new w _
  have n2 : W2.heap[w.heap.size + 1]? = some (.cells #[.string { data := #[] }] 9 (0, 0)) := by rw [hW2, ← s1]; exact heap_alloc_new W1 _
  have n3 : W3.heap[w.heap.size + 1 + 1]? = some (.cells #[.slice none 0 0] 23 (0, 0)) := by rw [hW3, ← s2]; exact heap_alloc_new W2 _
  have n4 : W4.heap[w.heap.size + 1 + 1 + 1]? = some (.cells #[.bool false] 4 (0, 0)) := by rw [hW4, ← s3]; exact heap_alloc_new W3 _
  have b12 : Below W1.heap.size W1 W2 := by rw [hW2]; exact (Below.refl _ W1).alloc (Nat.le_refl _) _
  have b23 : Below W2.heap.size W2 W3 := by rw [hW3]; exact (Below.refl _ W2).alloc (Nat.le_refl _) _
  have b34 : Below W3.heap.size W3 W4 := by rw [hW4]; exact (Below.refl _ W3).alloc (Nat.le_refl _) _
  have b01 : Below w.heap.size w W1 := by rw [hW1]; exact (Below.refl _ w).alloc (Nat.le_refl _) _
  have b04 : Below w.heap.size w W4 := below_then (below_then (below_then b01 (by omega) b12) (by omega) b23) (by omega) b34
  have t4 : Lib.TabIs Tryd.prog W4 "internal/strconv.uint64pow10" .u64 Lib.pow10Tab := tabIs_below HT.out b04
  have m3 := (b34.block _ (blk_lt n3)).trans n3
  have m2 := (b34.block _ (by omega)).trans ((b23.block _ (blk_lt n2)).trans n2)
  have m1 := (b34.block _ (by omega)).trans ((b23.block _ (by omega)).trans ((b12.block _ (blk_lt n1)).trans n1))
  have hc4 := Kd.C_below HC.out b04
  rw [← hW1, ← hW2, ← hW3, ← hW4]
  refine (calm_any _ _ _ _ _ _ _ l hl A c W4 m1 m2 m3 n4 hc4 t4).mono ?_
  rintro e w1 ⟨rfl, hch, hP⟩
  have HB : Hid (Below w.heap.size w w1) := Lib.hid (b04.trans (hch.below (by omega) (fun k hk => by omega)))
  have HM := Lib.hid (And.intro m2 (And.intro m3 n4))
  have HS := Lib.hid s4
  clear hW1 hW2 hW3 hW4 n1 n2 n3 b12 b23 b34 b01 b04 t4 m1 m2 m3 n4 hc4 hch s1 s2 s3 s4
  generalize hg1 : w.heap.size + 1 = g1 at *
  generalize hg2 : g1 + 1 = g2 at *
  generalize hg3 : g2 + 1 = g3 at *
  have HG := Lib.hid (And.intro hg1 (And.intro hg2 hg3))
  clear hg1 hg2 hg3
  by_cases ho : okBytes l = true
  · rw [if_pos ho] at hP
    obtain ⟨A1, c1, q1, q2, q3, hR⟩ := hP
    have HQ := Lib.hid (And.intro q1 (And.intro q2 q3))
    have HR := Lib.hid hR
    have c1' : w1.cell? ⟨g1, 0, none⟩ = some (.string ⟨(oidText l).toArray⟩) := by rw [Lib.cell_of_heap q1]; rfl
    have c2' : w1.cell? ⟨g2, 0, none⟩ = some (.slice A1 l.length c1) := by rw [Lib.cell_of_heap q2]; rfl
    have c3' : w1.cell? ⟨g3, 0, none⟩ = some (.bool true) := by rw [Lib.cell_of_heap q3]; rfl
    have f1 : w1.frozen? ⟨g1, 0, none⟩ = false := Lib.frozen_of_heap q1 0
    have f2 : w1.frozen? ⟨g2, 0, none⟩ = false := Lib.frozen_of_heap q2 0
    have e1 := setCell_same q1
    have e2 := setCell_same q2
    clear q1 q2 q3 hR
    go_wp2
    go_region
    go_wp2
    refine bodyPost_ret (v := .tuple #[.string ⟨(oidText l).toArray⟩, .slice A1 l.length c1, .bool true]) (by simp [results, Tryd.results5, go_sem, c1', c2']) rfl ?_
    refine ⟨⟨HB.out.os, HB.out.tape, HB.out.output, HB.out.size, HB.out.block⟩, ?_⟩
    rw [if_pos ho]
    exact ⟨A1, c1, rfl, Kd.R_drew (Kd.R_lower HR.out (by have := HS.out; have := HG.out.1; have := HG.out.2.1; have := HG.out.2.2; omega))⟩
  · rw [if_neg ho] at hP
    obtain ⟨q1, q2, q3⟩ := hP
    rw [HM.out.1] at q1
    rw [HM.out.2.1] at q2
    rw [HM.out.2.2] at q3
    have c1' : w1.cell? ⟨g1, 0, none⟩ = some (.string { data := #[] }) := by rw [Lib.cell_of_heap q1]; rfl
    have c2' : w1.cell? ⟨g2, 0, none⟩ = some (.slice none 0 0) := by rw [Lib.cell_of_heap q2]; rfl
    have c3' : w1.cell? ⟨g3, 0, none⟩ = some (.bool false) := by rw [Lib.cell_of_heap q3]; rfl
    have f1 : w1.frozen? ⟨g1, 0, none⟩ = false := Lib.frozen_of_heap q1 0
    have f2 : w1.frozen? ⟨g2, 0, none⟩ = false := Lib.frozen_of_heap q2 0
    have e1 := setCell_same q1
    have e2 := setCell_same q2
    clear q1 q2 q3
    go_wp2
    go_region
    go_wp2
    refine bodyPost_ret (v := .tuple #[.string { data := #[] }, .slice none 0 0, .bool false]) (by simp [results, Tryd.results5, go_sem, c1', c2']) rfl ?_
    refine ⟨⟨HB.out.os, HB.out.tape, HB.out.output, HB.out.size, HB.out.block⟩, ?_⟩
    rw [if_neg ho]
    rfl
end Go.Proofs.YtiopgkdldkkonaaDoor

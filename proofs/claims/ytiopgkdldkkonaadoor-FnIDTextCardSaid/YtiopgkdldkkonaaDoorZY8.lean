/-
  WALKS: OIDText's closure; calm over it; OIDText.
  WALKS: calm over OIDText's closure; OIDText.
  WALK: laws.FnIDText.
-/
import Derived.Test.YtiopgkdldkkonaaDoorZY
import Derived.Test.YtiopgkdldkkonaaDoorZY5
namespace Go.Proofs.YtiopgkdldkkonaaDoor
open Go.RowKit Go.Proofs.YtiopgkdldkkonaaDoorW.PrintWords Go.Proofs.YtiopgkdldkkonaaDoor.Num Go.Proofs.YtiopgkdldkkonaaDoor.Pn
set_option linter.unusedVariables false
set_option linter.unusedSimpArgs false

theorem tabIs_ch {P : Program} {w w1 : World} {name : String} {k : IntKind} {zs : List Int} {S : Nat → Prop} (h : Lib.TabIs P w name k zs) (hc : Ch w w1 S) (hS : ∀ b, S b → ∃ v T f, w.heap[b]? = some (.cells #[v] T f)) (hz : zs.length ≠ 1) : Lib.TabIs P w1 name k zs := by
  unfold Lib.TabIs World.var? at *
  cases hg : P.globalNamed name with
  | none => simp [hg] at h
  | some g =>
    simp only [hg, Option.bind_some] at h ⊢
    have hlt : g < w.heap.size := by
      refine Nat.lt_of_not_le fun hle => ?_
      rw [Array.getElem?_eq_none hle] at h
      simp at h
    rw [hc.block g hlt fun hs => ?_]
    · exact h
    · obtain ⟨v, T, f, hb⟩ := hS g hs
      rw [hb] at h
      simp at h
      have := congrArg List.length h
      simp at this
      exact hz this.symm
/-- What the closure leaves. -/
def CtPost (w : World) (b1 b2 b3 b4 : Nat) (l : List UInt8) (w' : World) : Prop :=
  Ch w w' (fun k => k = b1 ∨ k = b2 ∨ k = b3 ∨ k = b4) ∧ match parse l with
  | some d => ∃ An mn cn A c, w'.heap[b1]? = some (.cells #[.slice An mn cn] 22 (0, 0)) ∧ w'.heap[b2]? = some (.cells #[.string (str (oidText d))] 9 (0, 0)) ∧ w'.heap[b3]? = some (.cells #[.slice A d.length c] 23 (0, 0)) ∧ w'.heap[b4]? = some (.cells #[.bool true] 4 (0, 0)) ∧ Kd.R (Kd.int .u8) 5 w' w.heap.size (fun _ => True) (.slice A d.length c) (ints d)
  | none => w'.heap[b1]? = w.heap[b1]? ∧ w'.heap[b2]? = w.heap[b2]? ∧ w'.heap[b3]? = w.heap[b3]? ∧ w'.heap[b4]? = w.heap[b4]?

set_option maxHeartbeats 4000000 in
set_option maxRecDepth 100000 in
theorem closureT_any (b0 b1 b2 b3 b4 : Nat) (x2 x3 x4 : Value) (l : List UInt8) (hl : l.length ≤ 200) (w : World) (h0 : w.heap[b0]? = some (.cells #[.string (str l)] 9 (0, 0)))
    (h1 : w.heap[b1]? = some (.cells #[.slice none 0 0] 22 (0, 0))) (h2 : w.heap[b2]? = some (.cells #[x2] 9 (0, 0))) (h3 : w.heap[b3]? = some (.cells #[x3] 23 (0, 0))) (h4 : w.heap[b4]? = some (.cells #[x4] 4 (0, 0)))
    (htab : Lib.TabIs Tryd.prog w "internal/strconv.uint64pow10" .u64 Lib.pow10Tab) :
    Calls Tryd.prog 19 #[.pointer (some ⟨b0, 0, none⟩), .pointer (some ⟨b1, 0, none⟩), .pointer (some ⟨b2, 0, none⟩), .pointer (some ⟨b3, 0, none⟩), .pointer (some ⟨b4, 0, none⟩)] w fun e w' => e = .returned (.tuple #[]) ∧ CtPost w b1 b2 b3 b4 l w' := by
  have hu39 := Tryd.underlying39
  have HH := Lib.hid (And.intro h1 (And.intro h2 (And.intro h3 h4)))
  have HT := Lib.hid htab
  have e0 : w.cell? ⟨b0, 0, none⟩ = some (.string (str l)) := by rw [Lib.cell_of_heap h0]; rfl
  clear h0 h1 h2 h3 h4 htab
  go_enter Tryd.func19, Tryd.ntmps19
  go_wp2_with fail
  refine (parseOID_any l hl w).mono ?_
  rintro e w1 hU
  obtain ⟨hB1, hU⟩ := hU
  cases hp : parse l with
  | none =>
    rw [hp] at hU
    subst hU
    have HB1 := Lib.hid hB1
    have HP0 := Lib.hid hp
    clear hp hB1
    unfold badOID
    go_wp2
    have hB : Below w.heap.size w (w1.alloc (.cells #[.slice none 0 0] 39)) := HB1.out.alloc HB1.out.size _
    refine bodyPost_ret (results_none rfl _ _ _) rfl ?_
    refine ⟨rfl, Ch.of_below' hB _, ?_⟩
    rw [HP0.out]
    obtain ⟨q1, q2, q3, q4⟩ := HH.out
    exact ⟨hB.block _ (blk_lt q1), hB.block _ (blk_lt q2), hB.block _ (blk_lt q3), hB.block _ (blk_lt q4)⟩
  | some d =>
    rw [hp] at hU
    obtain ⟨A, c, rfl, hR⟩ := hU
    obtain ⟨a, b, t, T⟩ := parse_taken hp
    have hdl := T.len hl
    have hok := T.ok
    have hpos : 0 < d.length := List.length_pos_iff.2 (okBytes_ne hok)
    have HP0 := Lib.hid hp
    obtain ⟨W2, hW2⟩ : ∃ W2, W2 = w1.alloc (.cells #[.slice A d.length c] 39) := ⟨_, rfl⟩
    have hB2 : Below w.heap.size w W2 := by rw [hW2]; exact hB1.alloc hB1.size _
    have hR2 : Kd.R (Kd.int .u8) 5 W2 w.heap.size (fun _ => True) (.slice A d.length c) (ints d) := by rw [hW2]; exact Kd.R_alloc hR _
    have ho2 : W2.heap[w1.heap.size]? = some (.cells #[.slice A d.length c] 39 (0, 0)) := by rw [hW2]; exact heap_alloc_new w1 _
    have hs1 := hB1.size
    obtain ⟨g, hg⟩ : ∃ g, g = w1.heap.size := ⟨_, rfl⟩
    rw [← hg] at ho2 hs1
    obtain ⟨ad, rfl, hcl⟩ := c8_some (c8_of_R hR2).2 (okBytes_ne hok)
    have HG := Lib.hid (And.intro ho2 hs1)
    have H2 := Lib.hid (And.intro hB2 hR2)
    have HCL := Lib.hid hcl
    have d2 : W2.cell? ⟨g, 0, none⟩ = some (.slice (some ad) d.length c) := by rw [Lib.cell_of_heap ho2]; rfl
    clear hp hB1 hR T hB2 hR2 ho2 hcl hs1 hok
    go_wp2_with fail
    rw [← hW2, ← hg]
    clear hW2 hg d2
    refine (zzNumbers_any d (by omega) ad c W2 HCL.out).mono ?_
    rintro e w3 ⟨An, mn, cn, bn, rfl, hB3⟩
    have n1 : w3.heap[b1]? = some (.cells #[.slice none 0 0] 22 (0, 0)) := (hB3.block _ (Nat.lt_of_lt_of_le (blk_lt HH.out.1) H2.out.1.size)).trans ((H2.out.1.block _ (blk_lt HH.out.1)).trans HH.out.1)
    have k1 : w3.cell? ⟨b1, 0, none⟩ = some (.slice none 0 0) := by rw [Lib.cell_of_heap n1]; rfl
    have f1 : w3.frozen? ⟨b1, 0, none⟩ = false := Lib.frozen_of_heap n1 0
    have ho3 := (hB3.block _ (blk_lt HG.out.1)).trans HG.out.1
    have hB3' := H2.out.1.trans (hB3.mono H2.out.1.size)
    have hR3 := Kd.R_below H2.out.2 hB3
    have hcl3 : ∀ j u, (Lib.byteCells d)[j]? = some u → w3.cell? (ad.add j) = some u := fun j u hj => (hB3.cell (World.block_lt_of_cell? _ _ (HCL.out j u hj))).trans (HCL.out j u hj)
    have hgb : g ≠ b1 := by have := blk_lt HH.out.1; have := HG.out.2; omega
    have hst : ∀ W3, (W3 = w3 ∨ W3 = w3.setCell ⟨b1, 0, none⟩ (.slice An mn cn)) → (∃ An mn cn, W3.heap[b1]? = some (.cells #[.slice An mn cn] 22 (0, 0))) ∧ W3.heap[g]? = some (.cells #[.slice (some ad) d.length c] 39 (0, 0)) ∧ Ch w W3 (fun k => k = b1) ∧ Kd.R (Kd.int .u8) 5 W3 w.heap.size (fun _ => True) (.slice (some ad) d.length c) (ints d) ∧ (∀ j u, (Lib.byteCells d)[j]? = some u → W3.cell? (ad.add j) = some u) := by
      rintro W3 (rfl | rfl)
      · exact ⟨⟨none, 0, 0, n1⟩, ho3, Ch.of_below' hB3' _, hR3, hcl3⟩
      · have hR3' := Kd.R_set hR3 n1 (by intro q hq; simp [Kd.int, Kd.scalar] at hq; subst hq; decide) 0 (.slice An mn cn)
        obtain ⟨ad', e, hcl'⟩ := c8_some (c8_of_R hR3').2 (List.length_pos_iff.1 hpos)
        injection e with e
        subst e
        exact ⟨⟨An, mn, cn, (blk_set n1 0 _).trans rfl⟩, (Below.heap_setCell w3 ⟨b1, 0, none⟩ _ g hgb).trans ho3, (Ch.of_below' hB3' (fun k => k = b1)).setCell ⟨b1, 0, none⟩ (fun _ => rfl) _, hR3', hcl'⟩
    have HST := Lib.hid hst
    have d3 : w3.cell? ⟨g, 0, none⟩ = some (.slice (some ad) d.length c) := by rw [Lib.cell_of_heap ho3]; rfl
    have d3' : (w3.setCell ⟨b1, 0, none⟩ (.slice An mn cn)).cell? ⟨g, 0, none⟩ = some (.slice (some ad) d.length c) := by rw [Lib.cell_of_heap (hst _ (.inr rfl)).2.1]; rfl
    clear n1 ho3 hB3' hR3 hcl3 hst hB3 HCL H2
    cases bn
    all_goals go_wp2_with fail
    · have H3 := Lib.hid (HST.out _ (.inl rfl))
      clear HST d3 d3' k1 f1
      generalize w3 = W3 at *
      refine (string_any d (by omega) hpos ad c W3 H3.out.2.2.2.2 (tabIs_ch HT.out H3.out.2.2.1 (fun b e => by subst e; exact ⟨_, _, _, HH.out.1⟩) (by decide))).mono ?_
      rintro e W4 ⟨rfl, hB4⟩
      have l1 := blk_lt HH.out.1
      have l2 := blk_lt HH.out.2.1
      have l3 := blk_lt HH.out.2.2.1
      have l4 := blk_lt HH.out.2.2.2
      have n12 : b2 ≠ b1 := blk_ne HH.out.2.1 HH.out.1 (by decide)
      have n13 : b3 ≠ b1 := blk_ne HH.out.2.2.1 HH.out.1 (by decide)
      have n14 : b4 ≠ b1 := blk_ne HH.out.2.2.2 HH.out.1 (by decide)
      have n23 : b3 ≠ b2 := blk_ne HH.out.2.2.1 HH.out.2.1 (by decide)
      have n24 : b4 ≠ b2 := blk_ne HH.out.2.2.2 HH.out.2.1 (by decide)
      have n34 : b4 ≠ b3 := blk_ne HH.out.2.2.2 HH.out.2.2.1 (by decide)
      have ng2 : g ≠ b2 := by have := HG.out.2; omega
      have hc4 : Ch w W4 (fun k => k = b1) := H3.out.2.2.1.same (Ch.of_below' hB4 _)
      obtain ⟨An', mn', cn', hn3⟩ := H3.out.1
      have q1 := (hB4.block _ (blk_lt hn3)).trans hn3
      have q2 := hc4.blk HH.out.2.1 n12
      have q3 := hc4.blk HH.out.2.2.1 n13
      have q4 := hc4.blk HH.out.2.2.2 n14
      have k2 : W4.cell? ⟨b2, 0, none⟩ = some x2 := by rw [Lib.cell_of_heap q2]; rfl
      have f2 : W4.frozen? ⟨b2, 0, none⟩ = false := Lib.frozen_of_heap q2 0
      have hog := (hB4.block _ (blk_lt H3.out.2.1)).trans H3.out.2.1
      have hog5 : (W4.setCell ⟨b2, 0, none⟩ (.string (str (oidText d)))).heap[g]? = some (.cells #[.slice (some ad) d.length c] 39 (0, 0)) := (Below.heap_setCell W4 ⟨b2, 0, none⟩ _ g ng2).trans hog
      have k5 : (W4.setCell ⟨b2, 0, none⟩ (.string (str (oidText d)))).cell? ⟨g, 0, none⟩ = some (.slice (some ad) d.length c) := by rw [Lib.cell_of_heap hog5]; rfl
      have r5 := Kd.R_set (Kd.R_below H3.out.2.2.2.1 hB4) q2 (by intro q hq; simp [Kd.int, Kd.scalar] at hq; subst hq; decide) 0 (.string (str (oidText d)))
      have c5 := (hc4.mono (T := fun k => k = b1 ∨ k = b2) (fun _ _ h => .inl h)).setCell ⟨b2, 0, none⟩ (fun _ => .inr rfl) (.string (str (oidText d)))
      have p1 := (Below.heap_setCell W4 ⟨b2, 0, none⟩ (.string (str (oidText d))) b1 (fun e => n12 e.symm)).trans q1
      have p2 : (W4.setCell ⟨b2, 0, none⟩ (.string (str (oidText d)))).heap[b2]? = some (.cells #[.string (str (oidText d))] 9 (0, 0)) := (blk_set q2 0 _).trans rfl
      have p3 := (Below.heap_setCell W4 ⟨b2, 0, none⟩ (.string (str (oidText d))) b3 n23).trans q3
      have p4 := (Below.heap_setCell W4 ⟨b2, 0, none⟩ (.string (str (oidText d))) b4 n24).trans q4
      have H5 := Lib.hid (And.intro r5 (And.intro c5 (And.intro p1 (And.intro p2 (And.intro p3 p4)))))
      have HNE := Lib.hid (And.intro n13 (And.intro n14 (And.intro n23 (And.intro n24 n34))))
      clear hB4 l1 l2 l3 l4 n12 n13 n14 n23 n24 n34 ng2 hc4 hn3 q1 q2 q3 q4 hog hog5 r5 c5 p1 p2 p3 p4 H3
      generalize hW5 : W4.setCell ⟨b2, 0, none⟩ (.string (str (oidText d))) = W5 at *
      go_wp2_with fail
      clear hW5
      refine (marshal_any d (by omega) (some ad) c (c8_of_R H5.out.1).1 W5 (c8_of_R H5.out.1).2).mono ?_
      rintro e W6 ⟨A6, c6, rfl, hR6, hB6⟩
      have q1 := (hB6.block _ (blk_lt H5.out.2.2.1)).trans H5.out.2.2.1
      have q2 := (hB6.block _ (blk_lt H5.out.2.2.2.1)).trans H5.out.2.2.2.1
      have q3 := (hB6.block _ (blk_lt H5.out.2.2.2.2.1)).trans H5.out.2.2.2.2.1
      have q4 := (hB6.block _ (blk_lt H5.out.2.2.2.2.2)).trans H5.out.2.2.2.2.2
      have k3 : W6.cell? ⟨b3, 0, none⟩ = some x3 := by rw [Lib.cell_of_heap q3]; rfl
      have f3 : W6.frozen? ⟨b3, 0, none⟩ = false := Lib.frozen_of_heap q3 0
      have q4' : (W6.setCell ⟨b3, 0, none⟩ (.slice A6 d.length c6)).heap[b4]? = some (.cells #[x4] 4 (0, 0)) := (Below.heap_setCell W6 ⟨b3, 0, none⟩ _ b4 HNE.out.2.2.2.2).trans q4
      have k4 : (W6.setCell ⟨b3, 0, none⟩ (.slice A6 d.length c6)).cell? ⟨b4, 0, none⟩ = some x4 := by rw [Lib.cell_of_heap q4']; rfl
      have f4 : (W6.setCell ⟨b3, 0, none⟩ (.slice A6 d.length c6)).frozen? ⟨b4, 0, none⟩ = false := Lib.frozen_of_heap q4' 0
      have HP : Hid (CtPost w b1 b2 b3 b4 l ((W6.setCell ⟨b3, 0, none⟩ (.slice A6 d.length c6)).setCell ⟨b4, 0, none⟩ (.bool true))) := Lib.hid (by
        refine ⟨?_, ?_⟩
        · have c6' := (H5.out.2.1.same (Ch.of_below' hB6 _)).mono (T := fun k => k = b1 ∨ k = b2 ∨ k = b3 ∨ k = b4) (fun k _ h => by rcases h with h | h; exact .inl h; exact .inr (.inl h))
          exact (c6'.setCell ⟨b3, 0, none⟩ (fun _ => .inr (.inr (.inl rfl))) _).setCell ⟨b4, 0, none⟩ (fun _ => .inr (.inr (.inr rfl))) _
        · rw [HP0.out]
          refine ⟨_, _, _, A6, c6, (Below.heap_setCell _ ⟨b4, 0, none⟩ _ b1 (fun e => HNE.out.2.1 e.symm)).trans ((Below.heap_setCell W6 ⟨b3, 0, none⟩ _ b1 (fun e => HNE.out.1 e.symm)).trans q1),
            (Below.heap_setCell _ ⟨b4, 0, none⟩ _ b2 (fun e => HNE.out.2.2.2.1 e.symm)).trans ((Below.heap_setCell W6 ⟨b3, 0, none⟩ _ b2 (fun e => HNE.out.2.2.1 e.symm)).trans q2),
            (Below.heap_setCell _ ⟨b4, 0, none⟩ _ b3 (fun e => HNE.out.2.2.2.2 e.symm)).trans ((blk_set q3 0 _).trans rfl), (blk_set q4' 0 _).trans rfl, ?_⟩
          exact Kd.R_set (Kd.R_set (Kd.R_lower hR6 H5.out.2.1.size) q3 (by intro q hq; simp [Kd.int, Kd.scalar] at hq; subst hq; decide) 0 _) q4' (by intro q hq; simp [Kd.int, Kd.scalar] at hq; subst hq; decide) 0 _)
      clear hR6 hB6 q1 q2 q3 q4 q4' HNE H5
      go_wp2
      go_end0
      exact ⟨rfl, HP.out⟩
    · have H3 := Lib.hid (HST.out _ (.inr rfl))
      clear HST d3 d3' k1 f1
      generalize w3.setCell ⟨b1, 0, none⟩ (.slice An mn cn) = W3 at *
      refine (string_any d (by omega) hpos ad c W3 H3.out.2.2.2.2 (tabIs_ch HT.out H3.out.2.2.1 (fun b e => by subst e; exact ⟨_, _, _, HH.out.1⟩) (by decide))).mono ?_
      rintro e W4 ⟨rfl, hB4⟩
      have l1 := blk_lt HH.out.1
      have l2 := blk_lt HH.out.2.1
      have l3 := blk_lt HH.out.2.2.1
      have l4 := blk_lt HH.out.2.2.2
      have n12 : b2 ≠ b1 := blk_ne HH.out.2.1 HH.out.1 (by decide)
      have n13 : b3 ≠ b1 := blk_ne HH.out.2.2.1 HH.out.1 (by decide)
      have n14 : b4 ≠ b1 := blk_ne HH.out.2.2.2 HH.out.1 (by decide)
      have n23 : b3 ≠ b2 := blk_ne HH.out.2.2.1 HH.out.2.1 (by decide)
      have n24 : b4 ≠ b2 := blk_ne HH.out.2.2.2 HH.out.2.1 (by decide)
      have n34 : b4 ≠ b3 := blk_ne HH.out.2.2.2 HH.out.2.2.1 (by decide)
      have ng2 : g ≠ b2 := by have := HG.out.2; omega
      have hc4 : Ch w W4 (fun k => k = b1) := H3.out.2.2.1.same (Ch.of_below' hB4 _)
      obtain ⟨An', mn', cn', hn3⟩ := H3.out.1
      have q1 := (hB4.block _ (blk_lt hn3)).trans hn3
      have q2 := hc4.blk HH.out.2.1 n12
      have q3 := hc4.blk HH.out.2.2.1 n13
      have q4 := hc4.blk HH.out.2.2.2 n14
      have k2 : W4.cell? ⟨b2, 0, none⟩ = some x2 := by rw [Lib.cell_of_heap q2]; rfl
      have f2 : W4.frozen? ⟨b2, 0, none⟩ = false := Lib.frozen_of_heap q2 0
      have hog := (hB4.block _ (blk_lt H3.out.2.1)).trans H3.out.2.1
      have hog5 : (W4.setCell ⟨b2, 0, none⟩ (.string (str (oidText d)))).heap[g]? = some (.cells #[.slice (some ad) d.length c] 39 (0, 0)) := (Below.heap_setCell W4 ⟨b2, 0, none⟩ _ g ng2).trans hog
      have k5 : (W4.setCell ⟨b2, 0, none⟩ (.string (str (oidText d)))).cell? ⟨g, 0, none⟩ = some (.slice (some ad) d.length c) := by rw [Lib.cell_of_heap hog5]; rfl
      have r5 := Kd.R_set (Kd.R_below H3.out.2.2.2.1 hB4) q2 (by intro q hq; simp [Kd.int, Kd.scalar] at hq; subst hq; decide) 0 (.string (str (oidText d)))
      have c5 := (hc4.mono (T := fun k => k = b1 ∨ k = b2) (fun _ _ h => .inl h)).setCell ⟨b2, 0, none⟩ (fun _ => .inr rfl) (.string (str (oidText d)))
      have p1 := (Below.heap_setCell W4 ⟨b2, 0, none⟩ (.string (str (oidText d))) b1 (fun e => n12 e.symm)).trans q1
      have p2 : (W4.setCell ⟨b2, 0, none⟩ (.string (str (oidText d)))).heap[b2]? = some (.cells #[.string (str (oidText d))] 9 (0, 0)) := (blk_set q2 0 _).trans rfl
      have p3 := (Below.heap_setCell W4 ⟨b2, 0, none⟩ (.string (str (oidText d))) b3 n23).trans q3
      have p4 := (Below.heap_setCell W4 ⟨b2, 0, none⟩ (.string (str (oidText d))) b4 n24).trans q4
      have H5 := Lib.hid (And.intro r5 (And.intro c5 (And.intro p1 (And.intro p2 (And.intro p3 p4)))))
      have HNE := Lib.hid (And.intro n13 (And.intro n14 (And.intro n23 (And.intro n24 n34))))
      clear hB4 l1 l2 l3 l4 n12 n13 n14 n23 n24 n34 ng2 hc4 hn3 q1 q2 q3 q4 hog hog5 r5 c5 p1 p2 p3 p4 H3
      generalize hW5 : W4.setCell ⟨b2, 0, none⟩ (.string (str (oidText d))) = W5 at *
      go_wp2_with fail
      clear hW5
      refine (marshal_any d (by omega) (some ad) c (c8_of_R H5.out.1).1 W5 (c8_of_R H5.out.1).2).mono ?_
      rintro e W6 ⟨A6, c6, rfl, hR6, hB6⟩
      have q1 := (hB6.block _ (blk_lt H5.out.2.2.1)).trans H5.out.2.2.1
      have q2 := (hB6.block _ (blk_lt H5.out.2.2.2.1)).trans H5.out.2.2.2.1
      have q3 := (hB6.block _ (blk_lt H5.out.2.2.2.2.1)).trans H5.out.2.2.2.2.1
      have q4 := (hB6.block _ (blk_lt H5.out.2.2.2.2.2)).trans H5.out.2.2.2.2.2
      have k3 : W6.cell? ⟨b3, 0, none⟩ = some x3 := by rw [Lib.cell_of_heap q3]; rfl
      have f3 : W6.frozen? ⟨b3, 0, none⟩ = false := Lib.frozen_of_heap q3 0
      have q4' : (W6.setCell ⟨b3, 0, none⟩ (.slice A6 d.length c6)).heap[b4]? = some (.cells #[x4] 4 (0, 0)) := (Below.heap_setCell W6 ⟨b3, 0, none⟩ _ b4 HNE.out.2.2.2.2).trans q4
      have k4 : (W6.setCell ⟨b3, 0, none⟩ (.slice A6 d.length c6)).cell? ⟨b4, 0, none⟩ = some x4 := by rw [Lib.cell_of_heap q4']; rfl
      have f4 : (W6.setCell ⟨b3, 0, none⟩ (.slice A6 d.length c6)).frozen? ⟨b4, 0, none⟩ = false := Lib.frozen_of_heap q4' 0
      have HP : Hid (CtPost w b1 b2 b3 b4 l ((W6.setCell ⟨b3, 0, none⟩ (.slice A6 d.length c6)).setCell ⟨b4, 0, none⟩ (.bool true))) := Lib.hid (by
        refine ⟨?_, ?_⟩
        · have c6' := (H5.out.2.1.same (Ch.of_below' hB6 _)).mono (T := fun k => k = b1 ∨ k = b2 ∨ k = b3 ∨ k = b4) (fun k _ h => by rcases h with h | h; exact .inl h; exact .inr (.inl h))
          exact (c6'.setCell ⟨b3, 0, none⟩ (fun _ => .inr (.inr (.inl rfl))) _).setCell ⟨b4, 0, none⟩ (fun _ => .inr (.inr (.inr rfl))) _
        · rw [HP0.out]
          refine ⟨_, _, _, A6, c6, (Below.heap_setCell _ ⟨b4, 0, none⟩ _ b1 (fun e => HNE.out.2.1 e.symm)).trans ((Below.heap_setCell W6 ⟨b3, 0, none⟩ _ b1 (fun e => HNE.out.1 e.symm)).trans q1),
            (Below.heap_setCell _ ⟨b4, 0, none⟩ _ b2 (fun e => HNE.out.2.2.2.1 e.symm)).trans ((Below.heap_setCell W6 ⟨b3, 0, none⟩ _ b2 (fun e => HNE.out.2.2.1 e.symm)).trans q2),
            (Below.heap_setCell _ ⟨b4, 0, none⟩ _ b3 (fun e => HNE.out.2.2.2.2 e.symm)).trans ((blk_set q3 0 _).trans rfl), (blk_set q4' 0 _).trans rfl, ?_⟩
          exact Kd.R_set (Kd.R_set (Kd.R_lower hR6 H5.out.2.1.size) q3 (by intro q hq; simp [Kd.int, Kd.scalar] at hq; subst hq; decide) 0 _) q4' (by intro q hq; simp [Kd.int, Kd.scalar] at hq; subst hq; decide) 0 _)
      clear hR6 hB6 q1 q2 q3 q4 q4' HNE H5
      go_wp2
      go_end0
      exact ⟨rfl, HP.out⟩
end Go.Proofs.YtiopgkdldkkonaaDoor
namespace Go.Proofs.YtiopgkdldkkonaaDoor
open Go.RowKit Go.Proofs.YtiopgkdldkkonaaDoorW.PrintWords Go.Proofs.YtiopgkdldkkonaaDoor.Num Go.Proofs.YtiopgkdldkkonaaDoor.Pn
set_option linter.unusedVariables false
set_option linter.unusedSimpArgs false

set_option maxHeartbeats 4000000 in
set_option maxRecDepth 100000 in
theorem calmT_any (b0 b1 b2 b3 b4 : Nat) (x2 x3 x4 : Value) (l : List UInt8) (hl : l.length ≤ 200) (w : World) (h0 : w.heap[b0]? = some (.cells #[.string (str l)] 9 (0, 0)))
    (h1 : w.heap[b1]? = some (.cells #[.slice none 0 0] 22 (0, 0))) (h2 : w.heap[b2]? = some (.cells #[x2] 9 (0, 0))) (h3 : w.heap[b3]? = some (.cells #[x3] 23 (0, 0))) (h4 : w.heap[b4]? = some (.cells #[x4] 4 (0, 0)))
    (htab : Lib.TabIs Tryd.prog w "internal/strconv.uint64pow10" .u64 Lib.pow10Tab) :
    Calls Tryd.prog 12 #[.func (.func 19) #[] #[.pointer (some ⟨b0, 0, none⟩), .pointer (some ⟨b1, 0, none⟩), .pointer (some ⟨b2, 0, none⟩), .pointer (some ⟨b3, 0, none⟩), .pointer (some ⟨b4, 0, none⟩)]] w fun e w' => e = .returned (.bool true) ∧ CtPost w b1 b2 b3 b4 l w' := by
  have hmf : ∀ (fn : Fn) (first cap : Array Value) (w : World), (Instr.makeFunc fn first cap).run Tryd.prog w = .ok (.func fn first cap) w := fun _ _ _ _ => rfl
  have H0 := Lib.hid h0
  have H1 := Lib.hid h1
  have H2 := Lib.hid h2
  have H3 := Lib.hid h3
  have H4 := Lib.hid h4
  have HT := Lib.hid htab
  clear h0 h1 h2 h3 h4 htab
  go_enter_defers Tryd.func12, Tryd.ntmps12
  go_wp2_with fail
  have old : ∀ {k : Nat} {o : Obj}, w.heap[k]? = some o → (w.alloc (.cells #[.bool false] 4)).heap[k]? = some o := fun h => (Below.heap_alloc w _ _ (blk_lt h)).trans h
  refine (closureT_any b0 b1 b2 b3 b4 x2 x3 x4 l hl (w.alloc (.cells #[.bool false] 4)) (old H0.out) (old H1.out) (old H2.out) (old H3.out) (old H4.out) (Lib.tabIs_alloc HT.out _)).mono ?_
  rintro e w1 ⟨rfl, hch, hP⟩
  have l1 := blk_lt H1.out
  have l2 := blk_lt H2.out
  have l3 := blk_lt H3.out
  have l4 := blk_lt H4.out
  have hr : w1.heap[w.heap.size]? = some (.cells #[.bool false] 4 (0, 0)) := hch.blk (heap_alloc_new w _) (fun h => by rcases h with h | h | h | h <;> omega)
  have k0 : w1.cell? ⟨w.heap.size, 0, none⟩ = some (.bool false) := by rw [Lib.cell_of_heap hr]; rfl
  have f0 : w1.frozen? ⟨w.heap.size, 0, none⟩ = false := Lib.frozen_of_heap hr 0
  have hfar : ∀ k, k < w.heap.size → (w1.setCell ⟨w.heap.size, 0, none⟩ (.bool true)).heap[k]? = w1.heap[k]? := fun k hk => Below.heap_setCell w1 ⟨w.heap.size, 0, none⟩ _ k (by simp; omega)
  have HP : Hid (CtPost w b1 b2 b3 b4 l (w1.setCell ⟨w.heap.size, 0, none⟩ (.bool true)) ∧ (w1.setCell ⟨w.heap.size, 0, none⟩ (.bool true)).heap[w.heap.size]? = some (.cells #[.bool true] 4 (0, 0))) := Lib.hid (by
    refine ⟨⟨?_, ?_⟩, (blk_set hr 0 (.bool true)).trans rfl⟩
    · exact (((Ch.refl w _).alloc _).same hch).setCell ⟨w.heap.size, 0, none⟩ (fun h => by simp at h) _
    · cases hp : parse l with
      | some d =>
        rw [hp] at hP
        obtain ⟨An, mn, cn, A1, c1, q1, q2, q3, q4, hR⟩ := hP
        exact ⟨An, mn, cn, A1, c1, (hfar _ l1).trans q1, (hfar _ l2).trans q2, (hfar _ l3).trans q3, (hfar _ l4).trans q4, Kd.R_set (Kd.R_lower hR (by simp)) hr (by intro q hq; simp [Kd.int, Kd.scalar] at hq; subst hq; decide) 0 (.bool true)⟩
      | none =>
        rw [hp] at hP
        obtain ⟨q1, q2, q3, q4⟩ := hP
        exact ⟨(hfar _ l1).trans (q1.trans (Below.heap_alloc w _ _ l1)), (hfar _ l2).trans (q2.trans (Below.heap_alloc w _ _ l2)), (hfar _ l3).trans (q3.trans (Below.heap_alloc w _ _ l3)), (hfar _ l4).trans (q4.trans (Below.heap_alloc w _ _ l4))⟩)
  clear hch hP hr hfar old l1 l2 l3 l4
  go_wp2
  have k1 : (w1.setCell ⟨w.heap.size, 0, none⟩ (.bool true)).cell? ⟨w.heap.size, 0, none⟩ = some (.bool true) := by rw [Lib.cell_of_heap HP.out.2]; rfl
  refine leaves_cons (f := 22) (args := #[.pointer (some ⟨w.heap.size, 0, none⟩)]) (by simp) (by simp [go_sem]) ?_
  refine (recov_idle ⟨w.heap.size, 0, none⟩ _).mono ?_
  rintro e u' w'' ⟨rfl, rfl, rfl⟩
  simp [Leaves, settle, results, Tryd.results12, go_sem, k1]
  exact HP.out.1

/-- What OIDText answers. -/
def OtPost (w : World) (l : List UInt8) (e : Ending) (w' : World) : Prop :=
  Below w.heap.size w w' ∧ match parse l with
  | some d => ∃ An mn cn A c, e = .returned (.tuple #[.slice An mn cn, .string (str (oidText d)), .slice A d.length c, .bool true]) ∧ Kd.R (Kd.int .u8) 5 w' w.heap.size (fun _ => True) (.slice A d.length c) (ints d)
  | none => e = .returned (.tuple #[.slice none 0 0, .string (str []), .slice none 0 0, .bool false])

set_option maxHeartbeats 8000000 in
set_option maxRecDepth 100000 in
theorem oidText_any (l : List UInt8) (hl : l.length ≤ 200) (w : World) (htab : Lib.TabIs Tryd.prog w "internal/strconv.uint64pow10" .u64 Lib.pow10Tab) :
    Calls Tryd.prog 11 #[.string (str l)] w fun e w' => OtPost w l e w' := by
  have hmf : ∀ (fn : Fn) (first cap : Array Value) (w : World), (Instr.makeFunc fn first cap).run Tryd.prog w = .ok (.func fn first cap) w := fun _ _ _ _ => rfl
  have HT := Lib.hid htab
  have hl' : ¬ (1000 < (l.length : Int)) := by omega
  have hsz : (str l).size = l.length := str_size l
  obtain ⟨s, hs⟩ : ∃ s, s = str l := ⟨_, rfl⟩
  rw [← hs] at hsz ⊢
  have HS := Lib.hid hs
  clear htab hs
  go_enter Tryd.func11, Tryd.ntmps11
  go_wp2_with fail
  obtain ⟨W1, hW1⟩ : ∃ W1, W1 = w.alloc (.cells #[.string s] 9) := ⟨_, rfl⟩
  obtain ⟨W2, hW2⟩ : ∃ W2, W2 = W1.alloc (.cells #[.slice none 0 0] 22) := ⟨_, rfl⟩
  obtain ⟨W3, hW3⟩ : ∃ W3, W3 = W2.alloc (.cells #[.string { data := #[] }] 9) := ⟨_, rfl⟩
  obtain ⟨W4, hW4⟩ : ∃ W4, W4 = W3.alloc (.cells #[.slice none 0 0] 23) := ⟨_, rfl⟩
  obtain ⟨W5, hW5⟩ : ∃ W5, W5 = W4.alloc (.cells #[.bool false] 4) := ⟨_, rfl⟩
  have s1 : W1.heap.size = w.heap.size + 1 := by rw [hW1]; simp
  have s2 : W2.heap.size = w.heap.size + 1 + 1 := by rw [hW2]; simp [s1]
  have s3 : W3.heap.size = w.heap.size + 1 + 1 + 1 := by rw [hW3]; simp [s2]
  have s4 : W4.heap.size = w.heap.size + 1 + 1 + 1 + 1 := by rw [hW4]; simp [s3]
  have s5 : W5.heap.size = w.heap.size + 1 + 1 + 1 + 1 + 1 := by rw [hW5]; simp [s4]
  have n0 : W1.heap[w.heap.size]? = some (.cells #[.string s] 9 (0, 0)) := by rw [hW1]; exact heap_alloc_new w _
  have n1 : W2.heap[w.heap.size + 1]? = some (.cells #[.slice none 0 0] 22 (0, 0)) := by rw [hW2, ← s1]; exact heap_alloc_new W1 _
  have n2 : W3.heap[w.heap.size + 1 + 1]? = some (.cells #[.string { data := #[] }] 9 (0, 0)) := by rw [hW3, ← s2]; exact heap_alloc_new W2 _
  have n3 : W4.heap[w.heap.size + 1 + 1 + 1]? = some (.cells #[.slice none 0 0] 23 (0, 0)) := by rw [hW4, ← s3]; exact heap_alloc_new W3 _
  have n4 : W5.heap[w.heap.size + 1 + 1 + 1 + 1]? = some (.cells #[.bool false] 4 (0, 0)) := by rw [hW5, ← s4]; exact heap_alloc_new W4 _
  have b01 : Below w.heap.size w W1 := by rw [hW1]; exact (Below.refl _ w).alloc (Nat.le_refl _) _
  have b12 : Below W1.heap.size W1 W2 := by rw [hW2]; exact (Below.refl _ W1).alloc (Nat.le_refl _) _
  have b23 : Below W2.heap.size W2 W3 := by rw [hW3]; exact (Below.refl _ W2).alloc (Nat.le_refl _) _
  have b34 : Below W3.heap.size W3 W4 := by rw [hW4]; exact (Below.refl _ W3).alloc (Nat.le_refl _) _
  have b45 : Below W4.heap.size W4 W5 := by rw [hW5]; exact (Below.refl _ W4).alloc (Nat.le_refl _) _
  have b05 : Below w.heap.size w W5 := below_then (below_then (below_then (below_then b01 (by omega) b12) (by omega) b23) (by omega) b34) (by omega) b45
  have t5 : Lib.TabIs Tryd.prog W5 "internal/strconv.uint64pow10" .u64 Lib.pow10Tab := tabIs_below HT.out b05
  have m3 := (b45.block _ (blk_lt n3)).trans n3
  have m2 := (b45.block _ (by omega)).trans ((b34.block _ (blk_lt n2)).trans n2)
  have m1 := (b45.block _ (by omega)).trans ((b34.block _ (by omega)).trans ((b23.block _ (blk_lt n1)).trans n1))
  have m0 := (b45.block _ (by omega)).trans ((b34.block _ (by omega)).trans ((b23.block _ (by omega)).trans ((b12.block _ (blk_lt n0)).trans n0)))
  rw [HS.out] at m0
  rw [← hW1, ← hW2, ← hW3, ← hW4, ← hW5]
  refine (calmT_any _ _ _ _ _ _ _ _ l hl W5 m0 m1 m2 m3 n4 t5).mono ?_
  rintro e w1 ⟨rfl, hch, hP⟩
  have HB : Hid (Below w.heap.size w w1) := Lib.hid (b05.trans (hch.below (by omega) (fun k hk => by omega)))
  have HM := Lib.hid (And.intro m1 (And.intro m2 (And.intro m3 n4)))
  have HSZ : Hid (w.heap.size ≤ W5.heap.size) := Lib.hid b05.size
  clear hW1 hW2 hW3 hW4 hW5 n0 n1 n2 n3 b12 b23 b34 b45 b01 b05 t5 m0 m1 m2 m3 n4 hch s1 s2 s3 s4 s5
  generalize hg1 : w.heap.size + 1 = g1 at *
  generalize hg2 : g1 + 1 = g2 at *
  generalize hg3 : g2 + 1 = g3 at *
  generalize hg4 : g3 + 1 = g4 at *
  have HG := Lib.hid (And.intro hg1 (And.intro hg2 (And.intro hg3 hg4)))
  clear hg1 hg2 hg3 hg4
  cases hp : parse l with
  | some d =>
    rw [hp] at hP
    obtain ⟨An, mn, cn, A1, c1, q1, q2, q3, q4, hR⟩ := hP
    have HR := Lib.hid hR
    have HP0 := Lib.hid hp
    have c1' : w1.cell? ⟨g1, 0, none⟩ = some (.slice An mn cn) := by rw [Lib.cell_of_heap q1]; rfl
    have c2' : w1.cell? ⟨g2, 0, none⟩ = some (.string (str (oidText d))) := by rw [Lib.cell_of_heap q2]; rfl
    have c3' : w1.cell? ⟨g3, 0, none⟩ = some (.slice A1 d.length c1) := by rw [Lib.cell_of_heap q3]; rfl
    have c4' : w1.cell? ⟨g4, 0, none⟩ = some (.bool true) := by rw [Lib.cell_of_heap q4]; rfl
    have f1 : w1.frozen? ⟨g1, 0, none⟩ = false := Lib.frozen_of_heap q1 0
    have f2 : w1.frozen? ⟨g2, 0, none⟩ = false := Lib.frozen_of_heap q2 0
    have f3 : w1.frozen? ⟨g3, 0, none⟩ = false := Lib.frozen_of_heap q3 0
    have e1 := setCell_same q1
    have e2 := setCell_same q2
    have e3 := setCell_same q3
    clear q1 q2 q3 q4 hR hp
    go_wp2
    go_region
    go_wp2
    refine bodyPost_ret (v := .tuple #[.slice An mn cn, .string (str (oidText d)), .slice A1 d.length c1, .bool true]) (by simp [results, Tryd.results11, go_sem, c1', c2', c3']) rfl ?_
    refine ⟨⟨HB.out.os, HB.out.tape, HB.out.output, HB.out.size, HB.out.block⟩, ?_⟩
    rw [HP0.out]
    exact ⟨An, mn, cn, A1, c1, rfl, Kd.R_drew (Kd.R_lower HR.out HSZ.out)⟩
  | none =>
    rw [hp] at hP
    obtain ⟨q1, q2, q3, q4⟩ := hP
    rw [HM.out.1] at q1
    rw [HM.out.2.1] at q2
    rw [HM.out.2.2.1] at q3
    rw [HM.out.2.2.2] at q4
    have HP0 := Lib.hid hp
    have c1' : w1.cell? ⟨g1, 0, none⟩ = some (.slice none 0 0) := by rw [Lib.cell_of_heap q1]; rfl
    have c2' : w1.cell? ⟨g2, 0, none⟩ = some (.string { data := #[] }) := by rw [Lib.cell_of_heap q2]; rfl
    have c3' : w1.cell? ⟨g3, 0, none⟩ = some (.slice none 0 0) := by rw [Lib.cell_of_heap q3]; rfl
    have c4' : w1.cell? ⟨g4, 0, none⟩ = some (.bool false) := by rw [Lib.cell_of_heap q4]; rfl
    have f1 : w1.frozen? ⟨g1, 0, none⟩ = false := Lib.frozen_of_heap q1 0
    have f2 : w1.frozen? ⟨g2, 0, none⟩ = false := Lib.frozen_of_heap q2 0
    have f3 : w1.frozen? ⟨g3, 0, none⟩ = false := Lib.frozen_of_heap q3 0
    have e1 := setCell_same q1
    have e2 := setCell_same q2
    have e3 := setCell_same q3
    clear q1 q2 q3 q4 hp
    go_wp2
    go_region
    go_wp2
    refine bodyPost_ret (v := .tuple #[.slice none 0 0, .string { data := #[] }, .slice none 0 0, .bool false]) (by simp [results, Tryd.results11, go_sem, c1', c2', c3']) rfl ?_
    refine ⟨⟨HB.out.os, HB.out.tape, HB.out.output, HB.out.size, HB.out.block⟩, ?_⟩
    rw [HP0.out]
end Go.Proofs.YtiopgkdldkkonaaDoor
namespace Go.Proofs.YtiopgkdldkkonaaDoor
open Go.RowKit Go.Proofs.YtiopgkdldkkonaaDoorW.PrintWords Go.Proofs.YtiopgkdldkkonaaDoor.Num Go.Proofs.YtiopgkdldkkonaaDoor.Pn
set_option linter.unusedVariables false
set_option linter.unusedSimpArgs false

theorem idText_any (l : List UInt8) (hl : l.length ≤ 200) (w : World) :
    Calls Tryd.prog 10 #[.string (str l)] w fun e w' => ∃ A n c, e = .returned (.tuple #[.slice A n c, .bool (wantB (pieces l))]) ∧ Below w.heap.size w w' := by
  obtain ⟨r1, h⟩ := idText_f l hl
  obtain ⟨k, hk⟩ := h.rounds
  refine (spec_IDText.calls k _ r1 _ w hk).mono ?_
  rintro e w' ⟨v0, rfl, hR, hB⟩
  obtain ⟨A, c, rfl⟩ := Kd.R_slice hR
  exact ⟨A, _, c, rfl, hB⟩

def probe : List UInt8 := [49, 46, 50, 46, 51]
theorem probe_nz : ∀ p ∈ pieces probe, noZero p := nz_pieces (by decide)
theorem probe_text : ∃ d, parse probe = some d ∧ oidText d = probe := by
  have h : (parse probe).isSome = true := (parse_want probe_nz).trans (by decide)
  obtain ⟨d, hd⟩ := Option.isSome_iff_exists.1 h
  obtain ⟨a, b, t, T⟩ := parse_taken hd
  exact ⟨d, hd, T.text probe_nz⟩

/-- What one round of the look for noughts ahead sees. -/
theorem nz_cases (l : List UInt8) (i : Nat) (hi : i < l.length) :
    (l[i].toNat ≠ 48 ∧ nzAt l i = false) ∨
    (l[i].toNat = 48 ∧ i ≠ 0 ∧ (∃ h : i - 1 < l.length, (l[i - 1]'h).toNat ≠ 46) ∧ nzAt l i = false) ∨
    (l[i].toNat = 48 ∧ (i = 0 ∨ ∃ h : i - 1 < l.length, (l[i - 1]'h).toNat = 46) ∧ ¬ i + 1 < l.length ∧ nzAt l i = false) ∨
    (l[i].toNat = 48 ∧ (i = 0 ∨ ∃ h : i - 1 < l.length, (l[i - 1]'h).toNat = 46) ∧ ∃ h : i + 1 < l.length, (l[i + 1]'h).toNat = 46 ∧ nzAt l i = false) ∨
    (l[i].toNat = 48 ∧ (i = 0 ∨ ∃ h : i - 1 < l.length, (l[i - 1]'h).toNat = 46) ∧ ∃ h : i + 1 < l.length, (l[i + 1]'h).toNat ≠ 46) := by
  have e48 : ∀ x : UInt8, x = 48 ↔ x.toNat = 48 := fun x => ⟨fun h => by rw [h]; rfl, fun h => UInt8.toNat_inj.1 h⟩
  have e46 : ∀ x : UInt8, x = 46 ↔ x.toNat = 46 := fun x => ⟨fun h => by rw [h]; rfl, fun h => UInt8.toNat_inj.1 h⟩
  have h1 : i - 1 < l.length := by omega
  unfold nzAt
  rw [List.getElem?_eq_getElem hi, List.getElem?_eq_getElem h1]
  simp only [Option.some.injEq, e48, e46]
  by_cases a : l[i].toNat = 48
  · by_cases b : i = 0 ∨ (l[i - 1]'h1).toNat = 46
    · have b' : (i = 0 ∨ ∃ h : i - 1 < l.length, (l[i - 1]'h).toNat = 46) := by
        rcases b with b | b
        · exact .inl b
        · exact .inr ⟨h1, b⟩
      by_cases c : i + 1 < l.length
      · by_cases d : (l[i + 1]'c).toNat = 46
        · refine .inr (.inr (.inr (.inl ⟨a, b', c, d, ?_⟩)))
          rw [List.getElem?_eq_getElem c]; simp [e46, d]
        · exact .inr (.inr (.inr (.inr ⟨a, b', c, d⟩)))
      · exact .inr (.inr (.inl ⟨a, b', c, by simp [c]⟩))
    · refine .inr (.inl ⟨a, fun h => b (.inl h), ⟨h1, fun h => b (.inr h)⟩, ?_⟩)
      have b1 : i ≠ 0 := fun h => b (.inl h)
      have b2 : ¬ (l[i - 1]'h1).toNat = 46 := fun h => b (.inr h)
      simp [b1, b2]
  · exact .inl ⟨a, by simp [a]⟩

set_option maxHeartbeats 8000000 in
set_option maxRecDepth 100000 in
theorem lawText_any (s : ByteArray) (w : World) (htab : Tab w) :
    Calls Tryd.prog 4 #[.string s] w fun e w' => e = .returned (.bool true) ∧ Below w.heap.size w w' := by
  obtain ⟨l, hs⟩ : ∃ l : List UInt8, s = str l := ⟨s.data.toList, by apply ByteArray.ext; simp⟩
  have hsz : s.size = l.length := by rw [hs]; exact str_size l
  have HT := Lib.hid htab
  have HS := Lib.hid hs
  clear htab
  by_cases hbig : 2147483647 < l.length
  · have hbig' : 2147483647 < (l.length : Int) := by omega
    clear hs
    go_enter Tryd.func4, Tryd.ntmps4
    go_wp2
    go_ret
    exact ⟨rfl, Below.refl _ _⟩
  · have hbig' : ¬ (2147483647 < (l.length : Int)) := by omega
    by_cases h200 : 200 < l.length
    · have h200' : 200 < (l.length : Int) := by omega
      clear hs
      go_enter Tryd.func4, Tryd.ntmps4
      go_wp2
      go_ret
      exact ⟨rfl, Below.refl _ _⟩
    · have h200' : ¬ (200 < (l.length : Int)) := by omega
      have hl : l.length ≤ 200 := by omega
      have hid := idText_any l hl w
      rw [← hs] at hid
      have hot : ∀ w, Tab w → Calls Tryd.prog 11 #[.string s] w fun e w' => OtPost w l e w' := fun w ht => by
        have := oidText_any l hl w ht
        rwa [← hs] at this
      have hat : ∀ (i : Nat) (h : i < l.length) (hh : i < s.size), ((s[i]'hh).toNat : Int) = ((l[i].toNat : Nat) : Int) := fun i h hh => by subst hs; rfl
      have HID := Lib.hid hid
      have HOT := Lib.hid hot
      have HAT := Lib.hid hat
      clear hs hid hot hat hbig h200
      go_enter Tryd.func4, Tryd.ntmps4
      go_wp2_with fail
      refine HID.out.mono ?_
      rintro e w1 ⟨A, n, c, rfl, hB1⟩
      obtain ⟨want, hwant⟩ : ∃ want, want = wantB (pieces l) := ⟨_, rfl⟩
      rw [← hwant]
      have HW := Lib.hid hwant
      have HB1 := Lib.hid hB1
      clear hwant hB1 HID
      go_wp2_with fail
      go_loopg [30] l.length (fun gk s30 wr => ∃ i : Nat, i ≤ l.length ∧ gk = l.length - i ∧ s30 = .int .i64 i ∧ (∀ j, j < i → nzAt l j = false) ∧ wr = w1)
      case atStart => exact ⟨0, Nat.zero_le _, rfl, rfl, fun j hj => by omega, rfl⟩
      case round =>
        obtain ⟨i, hi, rfl, rfl, hnz, rfl⟩ := hrel
        have HNZ := Lib.hid hnz
        clear hnz
        by_cases hin : i < l.length
        · have hlt : (i : Int) < (l.length : Int) := by omega
          have next : ∀ h : nzAt l i = false, ∀ j, j < i + 1 → nzAt l j = false := fun h j hj => by
            by_cases hj : j < i
            · exact HNZ.out j hj
            · obtain rfl : j = i := by omega
              exact h
          have NEXT := Lib.hid next
          clear next
          have hs0 : ∀ hh : i < s.size, ((s[i]'hh).toNat : Int) = ((l[i].toNat : Nat) : Int) := HAT.out i hin
          obtain ⟨t, ht⟩ : ∃ t, t = l[i].toNat := ⟨_, rfl⟩
          rcases nz_cases l i hin with ⟨h48, hz⟩ | ⟨h48, hi0, ⟨h1, h46⟩, hz⟩ | ⟨h48, hpre, hnl, hz⟩ | ⟨h48, hpre, h1, h46, hz⟩ | ⟨h48, hpre, h1, h46⟩
          · rw [← ht] at h48 hs0
            have ne : ((t : Int) == 48) = false := by rw [beq_eq_false_iff_ne]; omega
            have HZ := Lib.hid (NEXT.out hz)
            clear ht hz h48
            go_wp2_with fail
            go_roundg (l.length - (i + 1))
            case measure => omega
            case rel => exact ⟨i + 1, by omega, rfl, by go_num, HZ.out, rfl⟩
          · rw [h48] at hs0
            obtain ⟨t1, ht1⟩ : ∃ t1, t1 = (l[i - 1]'h1).toNat := ⟨_, rfl⟩
            rw [← ht1] at h46
            have hp0 : (1 : Int) ≤ (i : Int) := by omega
            have hp1 : (i : Int) - 1 < (l.length : Int) := by omega
            have hp2 : (0 : Int) ≤ (i : Int) - 1 := by omega
            have hpn : ((i : Int) - 1).toNat = i - 1 := by omega
            have hs1 : ∀ hh : i - 1 < s.size, ((s[i - 1]'hh).toNat : Int) = (t1 : Int) := fun hh => by rw [HAT.out (i - 1) h1 hh, ht1]
            have ne0 : ((i : Int) == 0) = false := by rw [beq_eq_false_iff_ne]; omega
            have ne : ((t1 : Int) == 46) = false := by rw [beq_eq_false_iff_ne]; omega
            have HZ := Lib.hid (NEXT.out hz)
            clear ht hz h48 ht1 hi0
            go_wp2_with fail
            go_roundg (l.length - (i + 1))
            case measure => omega
            case rel => exact ⟨i + 1, by omega, rfl, by go_num, HZ.out, rfl⟩
          · rw [h48] at hs0
            have hpre' : i = 0 ∨ i ≠ 0 ∧ ∃ h : i - 1 < l.length, (l[i - 1]'h).toNat = 46 := by
              by_cases h0 : i = 0
              · exact .inl h0
              · rcases hpre with h | h
                · exact absurd h h0
                · exact .inr ⟨h0, h⟩
            clear hpre
            rcases hpre' with hi0 | ⟨hi0, hpre⟩
            · subst hi0
              have hn : ¬ ((1 : Int) < (l.length : Int)) := by omega
              have HZ := Lib.hid (NEXT.out hz)
              clear ht hz h48
              go_wp2_with fail
              go_roundg (l.length - 1)
              case measure => omega
              case rel => exact ⟨1, by omega, rfl, by first | rfl | go_num, HZ.out, rfl⟩
            · skip
              obtain ⟨hq, h46p⟩ := hpre
              obtain ⟨t1, ht1⟩ : ∃ t1, t1 = (l[i - 1]'hq).toNat := ⟨_, rfl⟩
              rw [← ht1] at h46p
              have hp0 : (1 : Int) ≤ (i : Int) := by omega
              have hp1 : (i : Int) - 1 < (l.length : Int) := by omega
              have hp2 : (0 : Int) ≤ (i : Int) - 1 := by omega
              have hpn : ((i : Int) - 1).toNat = i - 1 := by omega
              have hs1 : ∀ hh : i - 1 < s.size, ((s[i - 1]'hh).toNat : Int) = 46 := fun hh => by rw [HAT.out (i - 1) hq hh, ← ht1, h46p]; rfl
              have ne0 : ((i : Int) == 0) = false := by rw [beq_eq_false_iff_ne]; omega
              clear ht1 hi0
              have hn : ¬ ((i : Int) + 1 < (l.length : Int)) := by omega
              have HZ := Lib.hid (NEXT.out hz)
              clear ht hz h48
              go_wp2_with fail
              go_roundg (l.length - (i + 1))
              case measure => omega
              case rel => exact ⟨i + 1, by omega, rfl, by go_num, HZ.out, rfl⟩
          · rw [h48] at hs0
            have hpre' : i = 0 ∨ i ≠ 0 ∧ ∃ h : i - 1 < l.length, (l[i - 1]'h).toNat = 46 := by
              by_cases h0 : i = 0
              · exact .inl h0
              · rcases hpre with h | h
                · exact absurd h h0
                · exact .inr ⟨h0, h⟩
            clear hpre
            rcases hpre' with hi0 | ⟨hi0, hpre⟩
            · subst hi0
              have hn : (1 : Int) < (l.length : Int) := by omega
              have hn0 : (0 : Int) ≤ (1 : Int) := by omega
              have hs2 : ∀ hh : 1 < s.size, ((s[1]'hh).toNat : Int) = 46 := fun hh => by rw [HAT.out (0 + 1) h1 hh, h46]; rfl
              have HZ := Lib.hid (NEXT.out hz)
              clear ht hz h48 h46
              go_wp2_with fail
              go_roundg (l.length - 1)
              case measure => omega
              case rel => exact ⟨1, by omega, rfl, by first | rfl | go_num, HZ.out, rfl⟩
            · skip
              obtain ⟨hq, h46p⟩ := hpre
              obtain ⟨t1, ht1⟩ : ∃ t1, t1 = (l[i - 1]'hq).toNat := ⟨_, rfl⟩
              rw [← ht1] at h46p
              have hp0 : (1 : Int) ≤ (i : Int) := by omega
              have hp1 : (i : Int) - 1 < (l.length : Int) := by omega
              have hp2 : (0 : Int) ≤ (i : Int) - 1 := by omega
              have hpn : ((i : Int) - 1).toNat = i - 1 := by omega
              have hs1 : ∀ hh : i - 1 < s.size, ((s[i - 1]'hh).toNat : Int) = 46 := fun hh => by rw [HAT.out (i - 1) hq hh, ← ht1, h46p]; rfl
              have ne0 : ((i : Int) == 0) = false := by rw [beq_eq_false_iff_ne]; omega
              clear ht1 hi0
              have hn : (i : Int) + 1 < (l.length : Int) := by omega
              have hn0 : (0 : Int) ≤ (i : Int) + 1 := by omega
              have hs2 : ∀ hh : i + 1 < s.size, ((s[i + 1]'hh).toNat : Int) = 46 := fun hh => by rw [HAT.out (i + 1) h1 hh, h46]; rfl
              have HZ := Lib.hid (NEXT.out hz)
              clear ht hz h48 h46
              go_wp2_with fail
              go_roundg (l.length - (i + 1))
              case measure => omega
              case rel => exact ⟨i + 1, by omega, rfl, by go_num, HZ.out, rfl⟩
          · rw [h48] at hs0
            have hpre' : i = 0 ∨ i ≠ 0 ∧ ∃ h : i - 1 < l.length, (l[i - 1]'h).toNat = 46 := by
              by_cases h0 : i = 0
              · exact .inl h0
              · rcases hpre with h | h
                · exact absurd h h0
                · exact .inr ⟨h0, h⟩
            clear hpre
            rcases hpre' with hi0 | ⟨hi0, hpre⟩
            · subst hi0
              have hn : (1 : Int) < (l.length : Int) := by omega
              have hn0 : (0 : Int) ≤ (1 : Int) := by omega
              obtain ⟨t2, ht2⟩ : ∃ t2, t2 = (l[0 + 1]'h1).toNat := ⟨_, rfl⟩
              rw [← ht2] at h46
              have hs2 : ∀ hh : 1 < s.size, ((s[1]'hh).toNat : Int) = (t2 : Int) := fun hh => by rw [HAT.out (0 + 1) h1 hh, ht2]
              have ne2 : ((t2 : Int) == 46) = false := by rw [beq_eq_false_iff_ne]; omega
              clear ht h48 h46 ht2
              go_wp2
              go_ret
              exact ⟨rfl, HB1.out⟩
            · skip
              obtain ⟨hq, h46p⟩ := hpre
              obtain ⟨t1, ht1⟩ : ∃ t1, t1 = (l[i - 1]'hq).toNat := ⟨_, rfl⟩
              rw [← ht1] at h46p
              have hp0 : (1 : Int) ≤ (i : Int) := by omega
              have hp1 : (i : Int) - 1 < (l.length : Int) := by omega
              have hp2 : (0 : Int) ≤ (i : Int) - 1 := by omega
              have hpn : ((i : Int) - 1).toNat = i - 1 := by omega
              have hs1 : ∀ hh : i - 1 < s.size, ((s[i - 1]'hh).toNat : Int) = 46 := fun hh => by rw [HAT.out (i - 1) hq hh, ← ht1, h46p]; rfl
              have ne0 : ((i : Int) == 0) = false := by rw [beq_eq_false_iff_ne]; omega
              clear ht1 hi0
              have hn : (i : Int) + 1 < (l.length : Int) := by omega
              have hn0 : (0 : Int) ≤ (i : Int) + 1 := by omega
              obtain ⟨t2, ht2⟩ : ∃ t2, t2 = (l[i + 1]'h1).toNat := ⟨_, rfl⟩
              rw [← ht2] at h46
              have hs2 : ∀ hh : i + 1 < s.size, ((s[i + 1]'hh).toNat : Int) = (t2 : Int) := fun hh => by rw [HAT.out (i + 1) h1 hh, ht2]
              have ne2 : ((t2 : Int) == 46) = false := by rw [beq_eq_false_iff_ne]; omega
              clear ht h48 h46 ht2
              go_wp2
              go_ret
              exact ⟨rfl, HB1.out⟩
        · obtain rfl : i = l.length := by omega
          have hz := nz_pieces (fun i hi => HNZ.out i hi)
          have hpw := parse_want hz
          rw [← HW.out] at hpw
          have HZ := Lib.hid hz
          obtain ⟨dp, hpp, htp⟩ := probe_text
          have epr : str probe = ⟨#[49, 46, 50, 46, 51]⟩ := rfl
          have HPR := Lib.hid (And.intro hpp (And.intro htp epr))
          clear hz hpp htp epr HNZ HAT
          cases hp : parse l with
          | none =>
            rw [hp] at hpw
            obtain rfl : want = false := hpw.symm
            have HP0 := Lib.hid hp
            clear hp hpw
            go_wp2_with fail
            refine (HOT.out wr (tabIs_below HT.out HB1.out)).mono ?_
            rintro e w2 ⟨hB2, hP⟩
            rw [HP0.out] at hP
            subst hP
            have HB2 := Lib.hid (HB1.out.trans (hB2.mono HB1.out.size))
            clear hB2
            go_wp2_with fail
            refine (oidText_any probe (by decide) w2 (tabIs_below HT.out HB2.out)).mono ?_
            rintro e w3 ⟨hB3, hP⟩
            rw [HPR.out.1] at hP
            obtain ⟨Ap, mp, cp, Aq, cq, rfl, hRq⟩ := hP
            rw [HPR.out.2.1, HPR.out.2.2]
            have HB3 := Lib.hid (HB2.out.trans (hB3.mono HB2.out.size))
            clear hB3 hRq
            go_wp2
            go_ret
            exact ⟨rfl, HB3.out⟩
          | some d =>
            rw [hp] at hpw
            obtain rfl : want = true := hpw.symm
            obtain ⟨ta, tb, tt, T⟩ := parse_taken hp
            have htx : oidText d = l := T.text HZ.out
            have hdl := T.len hl
            have hok := T.ok
            have HD := Lib.hid (And.intro hp (And.intro htx (And.intro hdl hok)))
            clear hp hpw T htx hdl hok
            go_wp2_with fail
            refine (HOT.out wr (tabIs_below HT.out HB1.out)).mono ?_
            rintro e w2 ⟨hB2, hP⟩
            rw [HD.out.1] at hP
            obtain ⟨An, mn, cn, Ad, cd, rfl, hRd⟩ := hP
            rw [HD.out.2.1, ← HS.out]
            have HB2 := Lib.hid (HB1.out.trans (hB2.mono HB1.out.size))
            have HRD := Lib.hid hRd
            clear hB2 hRd
            go_wp2_with fail
            refine (oidText_any probe (by decide) w2 (tabIs_below HT.out HB2.out)).mono ?_
            rintro e w3 ⟨hB3, hP⟩
            rw [HPR.out.1] at hP
            obtain ⟨Ap, mp, cp, Aq, cq, rfl, hRq⟩ := hP
            rw [HPR.out.2.1, HPR.out.2.2]
            have HR3 := Lib.hid (Kd.R_below HRD.out hB3)
            have HB3 := Lib.hid (HB2.out.trans (hB3.mono HB2.out.size))
            clear hB3 hRq
            go_wp2_with fail
            refine (oidBytes_any d (by have := HD.out.2.2.1; omega) Ad cd w3 (c8_of_R HR3.out).2 (tabIs_below HT.out HB3.out)).mono ?_
            rintro e w4 ⟨hB4, hO⟩
            rw [if_pos HD.out.2.2.2, HD.out.2.1] at hO
            obtain ⟨Ao, co, rfl, hRo⟩ := hO
            rw [show (⟨l.toArray⟩ : ByteArray) = s from HS.out.symm]
            have HR4 := Lib.hid (Kd.R_below HR3.out hB4)
            have HB4 := Lib.hid (HB3.out.trans (hB4.mono HB3.out.size))
            clear hB4 hRo
            go_wp2_with fail
            refine (isIDBytes_any d (by have := HD.out.2.2.1; omega) Ad cd (c8_of_R HR4.out).1 w4 (c8_of_R HR4.out).2).mono ?_
            rintro e w5 ⟨rfl, hD5⟩
            rw [HD.out.2.2.2]
            have HB5 := Lib.hid (HB4.out.trans (hD5.below.mono HB4.out.size))
            clear hD5
            go_wp2
            go_ret
            exact ⟨rfl, HB5.out⟩
end Go.Proofs.YtiopgkdldkkonaaDoor

/-
  PRINTED by print.py out of the translation (function bodies, their contracts), mended by hand where it did not build. Not trusted: Lean checks it.
-/
import Derived.Test.YtiopgkdldkkonaaDoorZP0
namespace Go.Proofs.YtiopgkdldkkonaaDoor.Pn
open Go.RowKit Go.Proofs.YtiopgkdldkkonaaDoorW.PrintWords Go.Proofs.YtiopgkdldkkonaaDoorW.PrintLast Go.Proofs.YtiopgkdldkkonaaDoorW.PrintMore
attribute [local go_sem] max2_int min2_int max_two min_two max_three min_three max_four min_four   -- for this text's walks alone
set_option linter.unusedVariables false
set_option linter.unusedSimpArgs false

/-! ### x509_newOIDFromDER: function 23 -/
mutual
def x509_newOIDFromDER.j0 : Nat → List Int → Bool → Option (List Int × Bool)
  | 0, _, _ => none
  | k + 1, x0, x19 => if x19 = true then (some (([] : List Int), false)) else (x509_newOIDFromDER.l0 k x0 0 x0 (x0.length : Int) 0)
def x509_newOIDFromDER.l0 : Nat → List Int → Int → List Int → Int → Int → Option (List Int × Bool)
  | 0, _, _, _, _, _ => none
  | k + 1, x0, x4, x21, x22, x23 => if x23 < x22 then (if 0 ≤ x23 then (if x23 < (x21.length : Int) then (if x23 = x4 then (x509_newOIDFromDER.j2 k x0 x4 x23 (rd x21 x23) x21 x22 x23 ((rd x21 x23) == 128)) else (x509_newOIDFromDER.j2 k x0 x4 x23 (rd x21 x23) x21 x22 x23 false)) else (none)) else (none)) else (some (x0, true))
def x509_newOIDFromDER.j2 : Nat → List Int → Int → Int → Int → List Int → Int → Int → Bool → Option (List Int × Bool)
  | 0, _, _, _, _, _, _, _, _ => none
  | k + 1, x0, x4, x5, x6, x21, x22, x23, x34 => if x34 = true then (some (([] : List Int), false)) else (if (Go.bits .and .u8 x6 128) = 0 then (x509_newOIDFromDER.l0 k x0 (wrap64 (x5 + 1)) x21 x22 (wrap64 (x23 + 1))) else (x509_newOIDFromDER.l0 k x0 x4 x21 x22 (wrap64 (x23 + 1))))
end
def x509_newOIDFromDER.f (k : Nat) (l0 : List Int) : Option (List Int × Bool) := if (l0.length : Int) = 0 then (x509_newOIDFromDER.j0 k l0 true) else (if 0 ≤ (wrap64 ((l0.length : Int) - 1)) then (if (wrap64 ((l0.length : Int) - 1)) < (l0.length : Int) then (x509_newOIDFromDER.j0 k l0 ((Go.bits .and .u8 (rd l0 (wrap64 ((l0.length : Int) - 1))) 128) != 0)) else (none)) else (none))
theorem x509_newOIDFromDER.mono_l : ∀ k, (∀ y0 y1, LeO (x509_newOIDFromDER.j0 k y0 y1) (x509_newOIDFromDER.j0 (k + 1) y0 y1)) ∧ (∀ y0 y1 y2 y3 y4, LeO (x509_newOIDFromDER.l0 k y0 y1 y2 y3 y4) (x509_newOIDFromDER.l0 (k + 1) y0 y1 y2 y3 y4)) ∧ (∀ y0 y1 y2 y3 y4 y5 y6 y7, LeO (x509_newOIDFromDER.j2 k y0 y1 y2 y3 y4 y5 y6 y7) (x509_newOIDFromDER.j2 (k + 1) y0 y1 y2 y3 y4 y5 y6 y7))
  | 0 => ⟨fun _ _ r h => by simp [x509_newOIDFromDER.j0] at h, fun _ _ _ _ _ r h => by simp [x509_newOIDFromDER.l0] at h, fun _ _ _ _ _ _ _ _ r h => by simp [x509_newOIDFromDER.j2] at h⟩
  | k + 1 => by
    obtain ⟨ih0, ih1, ih2⟩ := x509_newOIDFromDER.mono_l k
    refine ⟨?_, ?_, ?_⟩
    · intro y0 y1
      unfold x509_newOIDFromDER.j0
      repeat' first
      | (with_reducible exact ih0 _ _)
      | (with_reducible exact ih1 _ _ _ _ _)
      | (with_reducible exact ih2 _ _ _ _ _ _ _ _)
      | (with_reducible exact LeO.refl _)
      | (with_reducible exact LeO.none _)
      | (with_reducible refine LeO.ite ?_ ?_)
      | (with_reducible refine LeO.bind ?_ (fun _ => ?_))
      | exact ih0 _ _
      | exact ih1 _ _ _ _ _
      | exact ih2 _ _ _ _ _ _ _ _
      | exact LeO.none _
      | refine LeO.ite ?_ ?_
      | refine LeO.bind ?_ (fun _ => ?_)
    · intro y0 y1 y2 y3 y4
      unfold x509_newOIDFromDER.l0
      repeat' first
      | (with_reducible exact ih0 _ _)
      | (with_reducible exact ih1 _ _ _ _ _)
      | (with_reducible exact ih2 _ _ _ _ _ _ _ _)
      | (with_reducible exact LeO.refl _)
      | (with_reducible exact LeO.none _)
      | (with_reducible refine LeO.ite ?_ ?_)
      | (with_reducible refine LeO.bind ?_ (fun _ => ?_))
      | exact ih0 _ _
      | exact ih1 _ _ _ _ _
      | exact ih2 _ _ _ _ _ _ _ _
      | exact LeO.none _
      | refine LeO.ite ?_ ?_
      | refine LeO.bind ?_ (fun _ => ?_)
    · intro y0 y1 y2 y3 y4 y5 y6 y7
      unfold x509_newOIDFromDER.j2
      repeat' first
      | (with_reducible exact ih0 _ _)
      | (with_reducible exact ih1 _ _ _ _ _)
      | (with_reducible exact ih2 _ _ _ _ _ _ _ _)
      | (with_reducible exact LeO.refl _)
      | (with_reducible exact LeO.none _)
      | (with_reducible refine LeO.ite ?_ ?_)
      | (with_reducible refine LeO.bind ?_ (fun _ => ?_))
      | exact ih0 _ _
      | exact ih1 _ _ _ _ _
      | exact ih2 _ _ _ _ _ _ _ _
      | exact LeO.none _
      | refine LeO.ite ?_ ?_
      | refine LeO.bind ?_ (fun _ => ?_)
theorem x509_newOIDFromDER.mono : ∀ a0 k, LeO (x509_newOIDFromDER.f k a0) (x509_newOIDFromDER.f (k + 1) a0) := by
  intro a0 k
  obtain ⟨ih0, ih1, ih2⟩ := x509_newOIDFromDER.mono_l k
  unfold x509_newOIDFromDER.f
  repeat' first
      | (with_reducible exact ih0 _ _)
      | (with_reducible exact ih1 _ _ _ _ _)
      | (with_reducible exact ih2 _ _ _ _ _ _ _ _)
      | (with_reducible exact LeO.refl _)
      | (with_reducible exact LeO.none _)
      | (with_reducible refine LeO.ite ?_ ?_)
      | (with_reducible refine LeO.bind ?_ (fun _ => ?_))
      | exact ih0 _ _
      | exact ih1 _ _ _ _ _
      | exact ih2 _ _ _ _ _ _ _ _
      | exact LeO.none _
      | refine LeO.ite ?_ ?_
      | refine LeO.bind ?_ (fun _ => ?_)
set_option maxHeartbeats 8000000 in
set_option maxRecDepth 100000 in
theorem x509_newOIDFromDER.calls (k : Nat) (P0_ : Nat → Prop) (u9000_ : Value) (l0 : List Int) (r1 : List Int) (r2 : Bool) (w0 w : World) (hB : Below w0.heap.size w0 w) (ho0 : Kd.R (Kd.int .u8) 5 w w0.heap.size P0_ u9000_ l0) (h : x509_newOIDFromDER.f k l0 = some (r1, r2)) :
    Calls Tryd.prog 23 #[u9000_] w fun e w' => ∃ v0_ : Value, e = .returned (.tuple #[.agg #[v0_], .bool r2]) ∧ Kd.R (Kd.int .u8) 5 w' w0.heap.size (fun k_ => (P0_ k_ ∨ w.heap.size ≤ k_)) v0_ r1 ∧ Below w0.heap.size w0 w' ∧ Kept w w' (fun k_ => P0_ k_) := by
  have hu39 := Tryd.underlying39
  have HO0 := Aside0.mk (show Kd.R (Kd.int .u8) 5 w w0.heap.size (fun k_ => (P0_ k_ ∨ w.heap.size ≤ k_)) u9000_ l0 from Kd.R_mono ho0 (fun k_ hk => (.inl hk)))
  have HK := Aside0.mk (Kept.refl w (fun k_ => P0_ k_))
  have HW0 := Aside0.mk hB.size
  have HB := Aside0.mk hB
  clear hB
  have H : (if (l0.length : Int) = 0 then (x509_newOIDFromDER.j0 k l0 true) else (if 0 ≤ (wrap64 ((l0.length : Int) - 1)) then (if (wrap64 ((l0.length : Int) - 1)) < (l0.length : Int) then (x509_newOIDFromDER.j0 k l0 ((Go.bits .and .u8 (rd l0 (wrap64 ((l0.length : Int) - 1))) 128) != 0)) else (none)) else (none))) = some (r1, r2) := h
  clear h
  have HC2 := Aside0.mk H
  clear H
  go_enter Tryd.func23, Tryd.ntmps23
  go_upto_region 1 with (first | ((with_reducible refine gate_dst (N := 2) rfl ?_); (try (refine gate_guard (by rfl) ?_; dsimp only)); refine box_event ?hg (N := 2) ?hd (cs := #[.slice none 0 0]) (t := 39) ?hr ?_; (case hd => rfl); (case hg => rfl); (case hr => first | (go_simp; done) | (go_simp; rfl)); intro gb208 hg w3 hbox hb; have n0_ := Aside0.mk (Kd.R_below (by (with_reducible repeat (first | apply Kd.R_alloc | apply Kd.R_drewN | apply Kd.R_drew)); exact HO0.out) hb); have n1_ := Aside0.mk (Kept.below (S := (fun k_ => P0_ k_)) (by repeat (first | (with_reducible first | exact HK.out | apply Kept.alloc | apply Kept.drewN | apply Kept.drew) | exact HK.out)) hb); have n2_ := Aside0.mk (below_step (by repeat (first | (with_reducible first | exact HB.out | apply below_alloc | apply pw_below_drewN | apply below_drew1) | exact HB.out)) hb); have n3_ := Aside0.mk (hbox); have n4_ := Aside0.mk ((by rw [hg]; exact (by first | exact HK.out.1 | exact (show Kept w _ (fun k_ => P0_ k_) from by repeat (first | (with_reducible first | exact HK.out | apply Kept.alloc | apply Kept.drewN | apply Kept.drew) | exact HK.out)).1) : w.heap.size ≤ gb208)); have n5_ := Aside0.mk ((by rw [hg]; exact (below_size (by repeat (first | (with_reducible first | exact HB.out | apply below_alloc | apply pw_below_drewN | apply below_drew1) | exact HB.out))) : w0.heap.size ≤ gb208)); clear HO0; clear HK; clear HB; have HO0 := n0_; have HK := n1_; have HB := n2_; have BK208 := n3_; have GW208 := n4_; have GE208 := n5_; clear n0_ n1_ n2_ n3_ n4_ n5_; clear hb hbox hg))
  (try simp only [Act.put, List.setIfInBounds_toArray, List.set_cons_zero, List.set_cons_succ])
  go_cut [19] (fun v19 wc => ∃ (kq : Nat) (x19_1 : Bool), v19 = .bool x19_1 ∧ Aside0 (x509_newOIDFromDER.j0 kq l0 x19_1 = some (r1, r2)) ∧ Aside0 (kq ≤ k) ∧ Aside0 (Kd.R (Kd.int .u8) 5 wc w0.heap.size (fun k_ => (P0_ k_ ∨ w.heap.size ≤ k_)) u9000_ l0) ∧ Aside0 (wc.heap[gb208]? = some (.cells #[(.slice none 0 0)] 39 (0, 0))) ∧ Aside0 (Kept w wc (fun k_ => P0_ k_)) ∧ Aside0 (Below w0.heap.size w0 wc))
  case first =>
    have H := HC2.out
    clear HC2
    by_cases c4 : (l0.length : Int) = 0
    · rw [if_pos c4] at H
      have c4b0 : ((l0.length : Int) == 0) = true := beq_iff_eq.mpr c4
      have c4b1 : ((l0.length : Int) != 0) = false := bne_eq_false_iff_eq.mpr c4
      clear c4
      (first | rw [c4b0] | (simp only [i64_w, i32_w]; rw [c4b0]) | skip)
      have H' := Aside0.mk H
      clear H
      obtain ⟨Ao5, co5, eo5⟩ := Kd.R_slice HO0.out
      subst eo5
      go_wp2
      go_meet
      case rel => exact ⟨_, (true), (by first | rfl | (simp; done) | (simp [*]; done)), H', ⟨by first | omega | exact Nat.le_refl _⟩, ⟨by (with_reducible repeat (first | apply Kd.R_alloc | apply Kd.R_drewN | apply Kd.R_drew)); exact HO0.out⟩, ⟨by (with_reducible repeat (first | refine blk_drewN ?_ _ | refine blk_drew ?_ | refine blk_alloc ?_ _)); exact BK208.out⟩, ⟨by repeat (first | (with_reducible first | exact HK.out | apply Kept.alloc | apply Kept.drewN | apply Kept.drew | refine Kept.setCell ?_ (.inr GW208.out) _) | exact HK.out)⟩, ⟨by repeat (first | (with_reducible first | exact HB.out | apply below_alloc | apply pw_below_drewN | apply below_drew1 | refine below_set ?_ GE208.out) | exact HB.out)⟩⟩
    · rw [if_neg c4] at H
      have c4b0 : ((l0.length : Int) == 0) = false := beq_eq_false_iff_ne.mpr c4
      have c4b1 : ((l0.length : Int) != 0) = true := bne_iff_ne.mpr c4
      have c4b2 : ¬ (l0 = []) := fun h_ => c4 (by rw [h_]; rfl)
      (first | rw [c4b0] | (simp only [i64_w, i32_w]; rw [c4b0]) | skip)
      obtain ⟨ji6, hji6⟩ : ∃ j_ : Int, (wrap64 ((l0.length : Int) - 1)) = j_ := ⟨_, rfl⟩
      replace H : (if 0 ≤ (ji6) then (if (ji6) < (l0.length : Int) then (x509_newOIDFromDER.j0 k l0 ((Go.bits .and .u8 (rd l0 (ji6)) 128) != 0)) else (none)) else (none)) = some (r1, r2) := by first | (rw [hji6] at H; exact H) | (simp only [hji6] at H ⊢; exact H)
      have hji6w : (IntKind.i64.wrap ((l0.length : Int) - 1)) = ji6 := (i64_w _).trans hji6
      by_cases c7 : 0 ≤ (ji6)
      · rw [if_pos c7] at H
        have c7b0 : decide (0 ≤ (ji6)) = true := decide_eq_true c7
        clear c7
        by_cases c8 : (ji6) < (l0.length : Int)
        · rw [if_pos c8] at H
          have c8b0 : decide ((ji6) < (l0.length : Int)) = true := decide_eq_true c8
          clear c8
          have H' := Aside0.mk H
          clear H
          obtain ⟨Ao9, co9, eo9⟩ := Kd.R_slice HO0.out
          subst eo9
          have p209 : 0 ≤ ((ji6) : Int) := of_decide_eq_true (by first | (with_reducible assumption) | assumption)
          have q209 : (ji6) < (l0.length : Int) := of_decide_eq_true (by first | (with_reducible assumption) | assumption)
          obtain ⟨ad209, e209, hx209_0⟩ := Kd.at_int (Kd.R_reads' HO0.out).2.2 (ji6) p209 q209
          cases e209
          replace p209 := eq_true p209
          replace q209 := eq_true q209
          go_wp2
          go_meet
          case rel => exact ⟨_, (((Go.bits .and .u8 (rd l0 (ji6)) 128) != 0)), (by first | rfl | (simp; done) | (simp only [← hji6] <;> (first | rfl | simp)) | (simp [*]; done)), H', ⟨by first | omega | exact Nat.le_refl _⟩, ⟨by (with_reducible repeat (first | apply Kd.R_alloc | apply Kd.R_drewN | apply Kd.R_drew)); exact HO0.out⟩, ⟨by (with_reducible repeat (first | refine blk_drewN ?_ _ | refine blk_drew ?_ | refine blk_alloc ?_ _)); exact BK208.out⟩, ⟨by repeat (first | (with_reducible first | exact HK.out | apply Kept.alloc | apply Kept.drewN | apply Kept.drew | refine Kept.setCell ?_ (.inr GW208.out) _) | exact HK.out)⟩, ⟨by repeat (first | (with_reducible first | exact HB.out | apply below_alloc | apply pw_below_drewN | apply below_drew1 | refine below_set ?_ GE208.out) | exact HB.out)⟩⟩
        · rw [if_neg c8] at H
          exact absurd H (by simp)
      · rw [if_neg c7] at H
        exact absurd H (by simp)
  case rest =>
    clear HC2
    try clear c2
    try clear p2
    try clear q2
    try clear hx2
    try clear c4
    try clear c4b0
    try clear c4b1
    try clear c4b2
    try clear p6
    try clear c7
    try clear c7b0
    try clear c8
    try clear c8b0
    try clear hx209_0
    try clear p209
    try clear q209
    obtain ⟨kq, x19_1, rfl, HA, HJ1, HO_0, BK208, HK, HB⟩ := hcut
    cases kq with
    | zero => exact absurd HA.out (by simp [x509_newOIDFromDER.j0])
    | succ kj1 =>
      have H := HA.out
      clear HA
      simp only [x509_newOIDFromDER.j0] at H
      by_cases c10 : x19_1 = true
      · subst c10
        have H1 : (some (([] : List Int), false)) = some (r1, r2) := by rw [if_pos rfl] at H; exact H
        clear H
        have H := H1
        clear H1
        simp only [Option.some.injEq, Prod.mk.injEq] at H
        obtain ⟨rfl, rfl⟩ := H
        have hcz11_0 : wc.cell? ⟨gb208, 0, none⟩ = some (.slice none 0 0) := (blk_cell BK208.out 0).trans rfl
        have hfz11_0 := blk_frozen BK208.out 0
        go_wp2
        refine bodyPost_ret (results_ct rfl _ _ gb208 39 #[.slice none 0 0] (0, 0) _ rfl (by (with_reducible repeat (first | refine blk_drewN ?_ _ | refine blk_drew ?_ | refine blk_alloc ?_ _)); refine blk_put (cs := #[.slice none 0 0]) ?_ 0 _ rfl; (with_reducible repeat (first | refine blk_drewN ?_ _ | refine blk_drew ?_ | refine blk_alloc ?_ _)); exact BK208.out) Tryd.underlying39 rfl (by kernel_rfl)) rfl ?_
        exact ⟨_, by first | rfl | (simp [errW_none, errW_some] <;> rfl) | (simp [*, errW_none, errW_some] <;> rfl), by first | exact Kd.R_nil _ _ _ _ _ | exact Kd.N_nil _ _ _ _ _ | exact Kd.V_nil _ _ _ _ _ | exact Kd.Q_nil _ _ _ _ _ | exact Kd.S_nil _ _ _ _ _, by repeat (first | (with_reducible first | exact HB.out | apply below_alloc | apply pw_below_drewN | apply below_drew1 | refine below_set ?_ GE208.out) | exact HB.out), by repeat (first | (with_reducible first | exact HK.out | apply Kept.alloc | apply Kept.drewN | apply Kept.drew | refine Kept.setCell ?_ (.inr GW208.out) _) | exact HK.out)⟩
      · replace c10 := Bool.eq_false_iff.mpr c10
        subst c10
        have H1 : (x509_newOIDFromDER.l0 kj1 l0 0 l0 (l0.length : Int) 0) = some (r1, r2) := by rw [if_neg (show ¬ (false = true) by decide)] at H; exact H
        clear H
        have H := H1
        clear H1
        have H' := Aside0.mk H
        clear H
        obtain ⟨Ao12, co12, eo12⟩ := Kd.R_slice HO_0.out
        subst eo12
        go_wp2
        go_loopg [4, 23] kj1 (fun kq v4 v23 w' => ∃ (x4_2 : Int) (x23_2 : Int), v4 = .int .i64 x4_2 ∧ v23 = .int .i64 x23_2 ∧ Aside0 (x509_newOIDFromDER.l0 kq l0 x4_2 l0 (l0.length : Int) x23_2 = some (r1, r2)) ∧ Aside0 (kq ≤ kj1) ∧ Aside0 (Kd.R (Kd.int .u8) 5 w' w0.heap.size (fun k_ => (P0_ k_ ∨ w.heap.size ≤ k_)) (.slice Ao12 l0.length co12) l0) ∧ Aside0 (Kd.R (Kd.int .u8) 5 w' w0.heap.size (fun k_ => (P0_ k_ ∨ w.heap.size ≤ k_)) (.slice Ao12 l0.length co12) l0) ∧ Aside0 (w'.heap[gb208]? = some (.cells #[(.slice none 0 0)] 39 (0, 0))) ∧ Aside0 (Kept w w' (fun k_ => P0_ k_)) ∧ Aside0 (Below w0.heap.size w0 w'))
        case atStart => exact ⟨(0), (0), (by first | rfl | (simp; done) | (simp [*]; done)), (by first | rfl | (simp; done) | (simp [*]; done)), H', ⟨Nat.le_refl _⟩, ⟨by (with_reducible repeat (first | apply Kd.R_alloc | apply Kd.R_drewN | apply Kd.R_drew)); exact HO_0.out⟩, ⟨by (with_reducible repeat (first | apply Kd.R_alloc | apply Kd.R_drewN | apply Kd.R_drew)); exact HO_0.out⟩, ⟨by (with_reducible repeat (first | refine blk_drewN ?_ _ | refine blk_drew ?_ | refine blk_alloc ?_ _)); exact BK208.out⟩, ⟨by repeat (first | (with_reducible first | exact HK.out | apply Kept.alloc | apply Kept.drewN | apply Kept.drew | refine Kept.setCell ?_ (.inr GW208.out) _) | exact HK.out)⟩, ⟨by repeat (first | (with_reducible first | exact HB.out | apply below_alloc | apply pw_below_drewN | apply below_drew1 | refine below_set ?_ GE208.out) | exact HB.out)⟩⟩
        case round =>
          clear H'
          try clear c1
          try clear c2
          try clear p2
          try clear q2
          try clear hx2
          try clear c4
          try clear c4b0
          try clear c4b1
          try clear c4b2
          try clear p6
          try clear c7
          try clear c7b0
          try clear c8
          try clear c8b0
          try clear c10
          try clear hcz11_0
          try clear hfz11_0
          try clear hx209_0
          try clear p2
          try clear p209
          try clear p6
          try clear q2
          try clear q209
          obtain ⟨x4_2, x23_2, rfl, rfl, HA, HK2, HO_0, HO_21, BK208, HK, HB⟩ := hrel
          cases gk with
          | zero => exact absurd HA.out (by simp [x509_newOIDFromDER.l0])
          | succ k2 =>
            have H := HA.out
            clear HA
            simp only [x509_newOIDFromDER.l0] at H
            by_cases c13 : x23_2 < (l0.length : Int)
            · rw [if_pos c13] at H
              have c13b0 : decide (x23_2 < (l0.length : Int)) = true := decide_eq_true c13
              clear c13
              by_cases c14 : 0 ≤ x23_2
              · rw [if_pos c14] at H
                have c14b0 : decide (0 ≤ x23_2) = true := decide_eq_true c14
                clear c14
                by_cases c15 : x23_2 < (l0.length : Int)
                · rw [if_pos c15] at H
                  have c15b0 : decide (x23_2 < (l0.length : Int)) = true := decide_eq_true c15
                  clear c15
                  have HC16 := Aside0.mk H
                  clear H
                  have p210 : 0 ≤ (x23_2 : Int) := of_decide_eq_true (by first | (with_reducible assumption) | assumption)
                  have q210 : x23_2 < (l0.length : Int) := of_decide_eq_true (by first | (with_reducible assumption) | assumption)
                  obtain ⟨ad210, e210, hx210_0⟩ := Kd.at_int (Kd.R_reads' HO_21.out).2.2 x23_2 p210 q210
                  cases e210
                  replace p210 := eq_true p210
                  replace q210 := eq_true q210
                  go_upto_region 7 with (fail)
                  go_cut [34] (fun v34 wc => ∃ (kq : Nat) (x34_15 : Bool), v34 = .bool x34_15 ∧ Aside0 (x509_newOIDFromDER.j2 kq l0 x4_2 x23_2 (rd l0 x23_2) l0 (l0.length : Int) x23_2 x34_15 = some (r1, r2)) ∧ Aside0 (kq ≤ k2) ∧ Aside0 (Kd.R (Kd.int .u8) 5 wc w0.heap.size (fun k_ => (P0_ k_ ∨ w.heap.size ≤ k_)) (.slice (some ad210) l0.length co12) l0) ∧ Aside0 (Kd.R (Kd.int .u8) 5 wc w0.heap.size (fun k_ => (P0_ k_ ∨ w.heap.size ≤ k_)) (.slice (some ad210) l0.length co12) l0) ∧ Aside0 (wc.heap[gb208]? = some (.cells #[(.slice none 0 0)] 39 (0, 0))) ∧ Aside0 (Kept w wc (fun k_ => P0_ k_)) ∧ Aside0 (Below w0.heap.size w0 wc))
                  case first =>
                    have H := HC16.out
                    clear HC16
                    by_cases c17 : x23_2 = x4_2
                    · rw [if_pos c17] at H
                      have c17b0 : (x23_2 == x4_2) = true := beq_iff_eq.mpr c17
                      have c17b1 : (x23_2 != x4_2) = false := bne_eq_false_iff_eq.mpr c17
                      clear c17
                      (first | rw [c17b0] | (simp only [i64_w, i32_w]; rw [c17b0]) | skip)
                      have H' := Aside0.mk H
                      clear H
                      go_wp2
                      go_meet
                      case rel => exact ⟨_, (((rd l0 x23_2) == 128)), (by first | rfl | (simp; done) | (simp [*]; done)), H', ⟨by have := HJ1.out; have := HK2.out; first | omega | exact Nat.le_refl _⟩, ⟨by (with_reducible repeat (first | apply Kd.R_alloc | apply Kd.R_drewN | apply Kd.R_drew)); exact HO_0.out⟩, ⟨by (with_reducible repeat (first | apply Kd.R_alloc | apply Kd.R_drewN | apply Kd.R_drew)); exact HO_21.out⟩, ⟨by (with_reducible repeat (first | refine blk_drewN ?_ _ | refine blk_drew ?_ | refine blk_alloc ?_ _)); exact BK208.out⟩, ⟨by repeat (first | (with_reducible first | exact HK.out | apply Kept.alloc | apply Kept.drewN | apply Kept.drew | refine Kept.setCell ?_ (.inr GW208.out) _) | exact HK.out)⟩, ⟨by repeat (first | (with_reducible first | exact HB.out | apply below_alloc | apply pw_below_drewN | apply below_drew1 | refine below_set ?_ GE208.out) | exact HB.out)⟩⟩
                    · rw [if_neg c17] at H
                      have c17b0 : (x23_2 == x4_2) = false := beq_eq_false_iff_ne.mpr c17
                      have c17b1 : (x23_2 != x4_2) = true := bne_iff_ne.mpr c17
                      (first | rw [c17b0] | (simp only [i64_w, i32_w]; rw [c17b0]) | skip)
                      have H' := Aside0.mk H
                      clear H
                      go_wp2
                      go_meet
                      case rel => exact ⟨_, (false), (by first | rfl | (simp; done) | (simp [*]; done)), H', ⟨by have := HJ1.out; have := HK2.out; first | omega | exact Nat.le_refl _⟩, ⟨by (with_reducible repeat (first | apply Kd.R_alloc | apply Kd.R_drewN | apply Kd.R_drew)); exact HO_0.out⟩, ⟨by (with_reducible repeat (first | apply Kd.R_alloc | apply Kd.R_drewN | apply Kd.R_drew)); exact HO_21.out⟩, ⟨by (with_reducible repeat (first | refine blk_drewN ?_ _ | refine blk_drew ?_ | refine blk_alloc ?_ _)); exact BK208.out⟩, ⟨by repeat (first | (with_reducible first | exact HK.out | apply Kept.alloc | apply Kept.drewN | apply Kept.drew | refine Kept.setCell ?_ (.inr GW208.out) _) | exact HK.out)⟩, ⟨by repeat (first | (with_reducible first | exact HB.out | apply below_alloc | apply pw_below_drewN | apply below_drew1 | refine below_set ?_ GE208.out) | exact HB.out)⟩⟩
                  case rest =>
                    clear HC16
                    try clear c1
                    try clear c2
                    try clear p2
                    try clear q2
                    try clear hx2
                    try clear c4
                    try clear c4b0
                    try clear c4b1
                    try clear c4b2
                    try clear p6
                    try clear c7
                    try clear c7b0
                    try clear c8
                    try clear c8b0
                    try clear c10
                    try clear c13
                    try clear c13b0
                    try clear c14
                    try clear c14b0
                    try clear c15
                    try clear c15b0
                    try clear c17
                    try clear c17b0
                    try clear c17b1
                    try clear hcz11_0
                    try clear hfz11_0
                    try clear hx209_0
                    try clear hx210_0
                    try clear p2
                    try clear p209
                    try clear p210
                    try clear p6
                    try clear q2
                    try clear q209
                    try clear q210
                    obtain ⟨kq, x34_15, rfl, HA, HJ15, HO_0, HO_21, BK208, HK, HB⟩ := hcut
                    cases kq with
                    | zero => exact absurd HA.out (by simp [x509_newOIDFromDER.j2])
                    | succ kj15 =>
                      have H := HA.out
                      clear HA
                      simp only [x509_newOIDFromDER.j2] at H
                      by_cases c18 : x34_15 = true
                      · subst c18
                        have H1 : (some (([] : List Int), false)) = some (r1, r2) := by rw [if_pos rfl] at H; exact H
                        clear H
                        have H := H1
                        clear H1
                        simp only [Option.some.injEq, Prod.mk.injEq] at H
                        obtain ⟨rfl, rfl⟩ := H
                        have hcz19_0 : wc.cell? ⟨gb208, 0, none⟩ = some (.slice none 0 0) := (blk_cell BK208.out 0).trans rfl
                        have hfz19_0 := blk_frozen BK208.out 0
                        go_wp2
                        refine bodyPost_ret (results_ct rfl _ _ gb208 39 #[.slice none 0 0] (0, 0) _ rfl (by (with_reducible repeat (first | refine blk_drewN ?_ _ | refine blk_drew ?_ | refine blk_alloc ?_ _)); refine blk_put (cs := #[.slice none 0 0]) ?_ 0 _ rfl; (with_reducible repeat (first | refine blk_drewN ?_ _ | refine blk_drew ?_ | refine blk_alloc ?_ _)); exact BK208.out) Tryd.underlying39 rfl (by kernel_rfl)) rfl ?_
                        exact ⟨_, by first | rfl | (simp [errW_none, errW_some] <;> rfl) | (simp [*, errW_none, errW_some] <;> rfl), by first | exact Kd.R_nil _ _ _ _ _ | exact Kd.N_nil _ _ _ _ _ | exact Kd.V_nil _ _ _ _ _ | exact Kd.Q_nil _ _ _ _ _ | exact Kd.S_nil _ _ _ _ _, by repeat (first | (with_reducible first | exact HB.out | apply below_alloc | apply pw_below_drewN | apply below_drew1 | refine below_set ?_ GE208.out) | exact HB.out), by repeat (first | (with_reducible first | exact HK.out | apply Kept.alloc | apply Kept.drewN | apply Kept.drew | refine Kept.setCell ?_ (.inr GW208.out) _) | exact HK.out)⟩
                      · replace c18 := Bool.eq_false_iff.mpr c18
                        subst c18
                        have H1 : (if (Go.bits .and .u8 (rd l0 x23_2) 128) = 0 then (x509_newOIDFromDER.l0 kj15 l0 (wrap64 (x23_2 + 1)) l0 (l0.length : Int) (wrap64 (x23_2 + 1))) else (x509_newOIDFromDER.l0 kj15 l0 x4_2 l0 (l0.length : Int) (wrap64 (x23_2 + 1)))) = some (r1, r2) := by rw [if_neg (show ¬ (false = true) by decide)] at H; exact H
                        clear H
                        have H := H1
                        clear H1
                        by_cases c20 : (Go.bits .and .u8 (rd l0 x23_2) 128) = 0
                        · rw [if_pos c20] at H
                          have c20b0 : ((Go.bits .and .u8 (rd l0 x23_2) 128) == 0) = true := beq_iff_eq.mpr c20
                          have c20b1 : ((Go.bits .and .u8 (rd l0 x23_2) 128) != 0) = false := bne_eq_false_iff_eq.mpr c20
                          clear c20
                          have H' := Aside0.mk H
                          clear H
                          go_wp2
                          go_roundg kj15
                          case measure => have := HJ1.out; have := HK2.out; have := HJ15.out; omega
                          case rel => exact ⟨(wrap64 (x23_2 + 1)), (wrap64 (x23_2 + 1)), (by first | rfl | (simp; done) | (simp [*]; done)), (by first | rfl | (simp; done) | (simp [*]; done)), H', ⟨by have := HJ1.out; have := HK2.out; have := HJ15.out; omega⟩, ⟨by (with_reducible repeat (first | apply Kd.R_alloc | apply Kd.R_drewN | apply Kd.R_drew)); exact HO_0.out⟩, ⟨by (with_reducible repeat (first | apply Kd.R_alloc | apply Kd.R_drewN | apply Kd.R_drew)); exact HO_21.out⟩, ⟨by (with_reducible repeat (first | refine blk_drewN ?_ _ | refine blk_drew ?_ | refine blk_alloc ?_ _)); exact BK208.out⟩, ⟨by repeat (first | (with_reducible first | exact HK.out | apply Kept.alloc | apply Kept.drewN | apply Kept.drew | refine Kept.setCell ?_ (.inr GW208.out) _) | exact HK.out)⟩, ⟨by repeat (first | (with_reducible first | exact HB.out | apply below_alloc | apply pw_below_drewN | apply below_drew1 | refine below_set ?_ GE208.out) | exact HB.out)⟩⟩
                        · rw [if_neg c20] at H
                          have c20b0 : ((Go.bits .and .u8 (rd l0 x23_2) 128) == 0) = false := beq_eq_false_iff_ne.mpr c20
                          have c20b1 : ((Go.bits .and .u8 (rd l0 x23_2) 128) != 0) = true := bne_iff_ne.mpr c20
                          have H' := Aside0.mk H
                          clear H
                          go_wp2
                          go_roundg kj15
                          case measure => have := HJ1.out; have := HK2.out; have := HJ15.out; omega
                          case rel => exact ⟨(x4_2), (wrap64 (x23_2 + 1)), (by first | rfl | (simp; done) | (simp [*]; done)), (by first | rfl | (simp; done) | (simp [*]; done)), H', ⟨by have := HJ1.out; have := HK2.out; have := HJ15.out; omega⟩, ⟨by (with_reducible repeat (first | apply Kd.R_alloc | apply Kd.R_drewN | apply Kd.R_drew)); exact HO_0.out⟩, ⟨by (with_reducible repeat (first | apply Kd.R_alloc | apply Kd.R_drewN | apply Kd.R_drew)); exact HO_21.out⟩, ⟨by (with_reducible repeat (first | refine blk_drewN ?_ _ | refine blk_drew ?_ | refine blk_alloc ?_ _)); exact BK208.out⟩, ⟨by repeat (first | (with_reducible first | exact HK.out | apply Kept.alloc | apply Kept.drewN | apply Kept.drew | refine Kept.setCell ?_ (.inr GW208.out) _) | exact HK.out)⟩, ⟨by repeat (first | (with_reducible first | exact HB.out | apply below_alloc | apply pw_below_drewN | apply below_drew1 | refine below_set ?_ GE208.out) | exact HB.out)⟩⟩
                · rw [if_neg c15] at H
                  exact absurd H (by simp)
              · rw [if_neg c14] at H
                exact absurd H (by simp)
            · rw [if_neg c13] at H
              have c13b0 : decide (x23_2 < (l0.length : Int)) = false := decide_eq_false c13
              clear c13
              simp only [Option.some.injEq, Prod.mk.injEq] at H
              obtain ⟨rfl, rfl⟩ := H
              have hcz21_0 : wr.cell? ⟨gb208, 0, none⟩ = some (.slice none 0 0) := (blk_cell BK208.out 0).trans rfl
              have hfz21_0 := blk_frozen BK208.out 0
              go_wp2
              refine bodyPost_ret (results_ct rfl _ _ gb208 39 #[.slice Ao12 l0.length co12] (0, 0) _ rfl (by (with_reducible repeat (first | refine blk_drewN ?_ _ | refine blk_drew ?_ | refine blk_alloc ?_ _)); refine blk_put (cs := #[.slice none 0 0]) ?_ 0 _ rfl; (with_reducible repeat (first | refine blk_drewN ?_ _ | refine blk_drew ?_ | refine blk_alloc ?_ _)); exact BK208.out) Tryd.underlying39 rfl (by kernel_rfl)) rfl ?_
              exact ⟨_, by first | rfl | (simp [errW_none, errW_some] <;> rfl) | (simp [*, errW_none, errW_some] <;> rfl), by (with_reducible repeat (first | apply Kd.R_alloc | apply Kd.R_drewN | apply Kd.R_drew)); exact Kd.R_mono (Kd.R_far (p := ⟨gb208, 0, none⟩) (Kd.R_types HO_0.out BK208.out (by decide)) (fun _ hk => hk.2) (.slice Ao12 l0.length co12)) (fun _ hk => hk.1), by repeat (first | (with_reducible first | exact HB.out | apply below_alloc | apply pw_below_drewN | apply below_drew1 | refine below_set ?_ GE208.out) | exact HB.out), by repeat (first | (with_reducible first | exact HK.out | apply Kept.alloc | apply Kept.drewN | apply Kept.drew | refine Kept.setCell ?_ (.inr GW208.out) _) | exact HK.out)⟩

-- NOT PRINTED: function 14 (x509_OID_UnmarshalBinary)

-- NOT PRINTED: function 12 (impl_calm)

-- NOT PRINTED: function 5 (impl_OIDBytes)

/-! ### spec_IsIDBytes: function 6 -/
def spec_IsIDBytes.l0 : Nat → List Int → Bool → List Int → Int → Int → Option (Bool)
  | 0, _, _, _, _, _ => none
  | k + 1, x0, x3, x6, x7, x8 => if x8 < x7 then (if 0 ≤ x8 then (if x8 < (x6.length : Int) then (if x3 = true then (if (rd x6 x8) = 128 then (some false) else (spec_IsIDBytes.l0 k x0 (decide ((rd x6 x8) < 128)) x6 x7 (wrap64 (x8 + 1)))) else (spec_IsIDBytes.l0 k x0 (decide ((rd x6 x8) < 128)) x6 x7 (wrap64 (x8 + 1)))) else (none)) else (none)) else (if (x0.length : Int) > 0 then (some x3) else (some false))
def spec_IsIDBytes.f (k : Nat) (l0 : List Int) : Option (Bool) := spec_IsIDBytes.l0 k l0 true l0 (l0.length : Int) 0
theorem spec_IsIDBytes.mono_l : ∀ k, (∀ y0 y1 y2 y3 y4, LeO (spec_IsIDBytes.l0 k y0 y1 y2 y3 y4) (spec_IsIDBytes.l0 (k + 1) y0 y1 y2 y3 y4))
  | 0 => fun _ _ _ _ _ r h => by simp [spec_IsIDBytes.l0] at h
  | k + 1 => by
    have ih0 := spec_IsIDBytes.mono_l k
    · intro y0 y1 y2 y3 y4
      unfold spec_IsIDBytes.l0
      repeat' first
      | (with_reducible exact ih0 _ _ _ _ _)
      | (with_reducible exact LeO.refl _)
      | (with_reducible exact LeO.none _)
      | (with_reducible refine LeO.ite ?_ ?_)
      | (with_reducible refine LeO.bind ?_ (fun _ => ?_))
      | exact ih0 _ _ _ _ _
      | exact LeO.none _
      | refine LeO.ite ?_ ?_
      | refine LeO.bind ?_ (fun _ => ?_)
theorem spec_IsIDBytes.mono : ∀ a0 k, LeO (spec_IsIDBytes.f k a0) (spec_IsIDBytes.f (k + 1) a0) := by
  intro a0 k
  have ih0 := spec_IsIDBytes.mono_l k
  unfold spec_IsIDBytes.f
  repeat' first
      | (with_reducible exact ih0 _ _ _ _ _)
      | (with_reducible exact LeO.refl _)
      | (with_reducible exact LeO.none _)
      | (with_reducible refine LeO.ite ?_ ?_)
      | (with_reducible refine LeO.bind ?_ (fun _ => ?_))
      | exact ih0 _ _ _ _ _
      | exact LeO.none _
      | refine LeO.ite ?_ ?_
      | refine LeO.bind ?_ (fun _ => ?_)
set_option maxHeartbeats 8000000 in
set_option maxRecDepth 100000 in
theorem spec_IsIDBytes.calls (k : Nat) (A0 : Option Addr) (c0 : Nat) (l0 : List Int) (r : Bool) (w : World) (hr0 : Kd.C (Kd.int .u8) w A0 l0.length l0) (hc0 : l0.length ≤ c0) (h : spec_IsIDBytes.f k l0 = some r) :
    Calls Tryd.prog 6 #[.slice A0 l0.length c0] w fun e w' => e = .returned (.bool r) ∧ Drawn0 w w' := by
  have HR0 := Aside0.mk hr0
  have HC0 := Aside0.mk hc0
  clear hr0 hc0
  have H : (spec_IsIDBytes.l0 k l0 true l0 (l0.length : Int) 0) = some r := h
  clear h
  have H' := Aside0.mk H
  clear H
  go_enter Tryd.func6, Tryd.ntmps6
  go_wp2
  go_loopg [3, 8] k (fun kq v3 v8 w' => ∃ (x3_1 : Bool) (x8_1 : Int), v3 = .bool x3_1 ∧ v8 = .int .i64 x8_1 ∧ Aside0 (spec_IsIDBytes.l0 kq l0 x3_1 l0 (l0.length : Int) x8_1 = some r) ∧ Aside0 (kq ≤ k) ∧ Drawn0 w w')
  case atStart => exact ⟨(true), (0), (by first | rfl | (simp; done) | (simp [*]; done)), (by first | rfl | (simp; done) | (simp [*]; done)), H', ⟨Nat.le_refl _⟩, by repeat (first | exact Drawn0.refl _ | apply Drawn0.step)⟩
  case round =>
    clear H'
    obtain ⟨x3_1, x8_1, rfl, rfl, HA, HK1, ⟨m1, rfl⟩⟩ := hrel
    cases gk with
    | zero => exact absurd HA.out (by simp [spec_IsIDBytes.l0])
    | succ k1 =>
      have H := HA.out
      clear HA
      simp only [spec_IsIDBytes.l0] at H
      by_cases c2 : x8_1 < (l0.length : Int)
      · rw [if_pos c2] at H
        have c2b0 : decide (x8_1 < (l0.length : Int)) = true := decide_eq_true c2
        clear c2
        by_cases c3 : 0 ≤ x8_1
        · rw [if_pos c3] at H
          have c3b0 : decide (0 ≤ x8_1) = true := decide_eq_true c3
          clear c3
          by_cases c4 : x8_1 < (l0.length : Int)
          · rw [if_pos c4] at H
            have c4b0 : decide (x8_1 < (l0.length : Int)) = true := decide_eq_true c4
            clear c4
            by_cases c5 : x3_1 = true
            · subst c5
              have H1 : (if (rd l0 x8_1) = 128 then (some false) else (spec_IsIDBytes.l0 k1 l0 (decide ((rd l0 x8_1) < 128)) l0 (l0.length : Int) (wrap64 (x8_1 + 1)))) = some r := by rw [if_pos rfl] at H; exact H
              clear H
              have H := H1
              clear H1
              by_cases c6 : (rd l0 x8_1) = 128
              · rw [if_pos c6] at H
                have c6b0 : ((rd l0 x8_1) == 128) = true := beq_iff_eq.mpr c6
                have c6b1 : ((rd l0 x8_1) != 128) = false := bne_eq_false_iff_eq.mpr c6
                clear c6
                obtain rfl := Option.some.inj H
                have p211 : 0 ≤ (x8_1 : Int) := of_decide_eq_true (by first | (with_reducible assumption) | assumption)
                have q211 : x8_1 < (l0.length : Int) := of_decide_eq_true (by first | (with_reducible assumption) | assumption)
                obtain ⟨ad211, e211, hx211_0⟩ := Kd.at_int HR0.out x8_1 p211 q211
                cases e211
                replace p211 := eq_true p211
                replace q211 := eq_true q211
                go_wp2
                go_ret
                exact ⟨by first | rfl | (simp; done) | (simp [*]; done), by repeat (first | exact Drawn0.refl _ | apply Drawn0.step)⟩
              · rw [if_neg c6] at H
                have c6b0 : ((rd l0 x8_1) == 128) = false := beq_eq_false_iff_ne.mpr c6
                have c6b1 : ((rd l0 x8_1) != 128) = true := bne_iff_ne.mpr c6
                have H' := Aside0.mk H
                clear H
                have p211 : 0 ≤ (x8_1 : Int) := of_decide_eq_true (by first | (with_reducible assumption) | assumption)
                have q211 : x8_1 < (l0.length : Int) := of_decide_eq_true (by first | (with_reducible assumption) | assumption)
                obtain ⟨ad211, e211, hx211_0⟩ := Kd.at_int HR0.out x8_1 p211 q211
                cases e211
                replace p211 := eq_true p211
                replace q211 := eq_true q211
                go_wp2
                go_roundg k1
                case measure => have := HK1.out; omega
                case rel => exact ⟨(decide ((rd l0 x8_1) < 128)), (wrap64 (x8_1 + 1)), (by first | rfl | (simp; done) | (simp [*]; done)), (by first | rfl | (simp; done) | (simp [*]; done)), H', ⟨by have := HK1.out; omega⟩, by repeat (first | exact Drawn0.refl _ | apply Drawn0.step)⟩
            · replace c5 := Bool.eq_false_iff.mpr c5
              subst c5
              have H1 : (spec_IsIDBytes.l0 k1 l0 (decide ((rd l0 x8_1) < 128)) l0 (l0.length : Int) (wrap64 (x8_1 + 1))) = some r := by rw [if_neg (show ¬ (false = true) by decide)] at H; exact H
              clear H
              have H := H1
              clear H1
              have H' := Aside0.mk H
              clear H
              have p211 : 0 ≤ (x8_1 : Int) := of_decide_eq_true (by first | (with_reducible assumption) | assumption)
              have q211 : x8_1 < (l0.length : Int) := of_decide_eq_true (by first | (with_reducible assumption) | assumption)
              obtain ⟨ad211, e211, hx211_0⟩ := Kd.at_int HR0.out x8_1 p211 q211
              cases e211
              replace p211 := eq_true p211
              replace q211 := eq_true q211
              go_wp2
              go_roundg k1
              case measure => have := HK1.out; omega
              case rel => exact ⟨(decide ((rd l0 x8_1) < 128)), (wrap64 (x8_1 + 1)), (by first | rfl | (simp; done) | (simp [*]; done)), (by first | rfl | (simp; done) | (simp [*]; done)), H', ⟨by have := HK1.out; omega⟩, by repeat (first | exact Drawn0.refl _ | apply Drawn0.step)⟩
          · rw [if_neg c4] at H
            exact absurd H (by simp)
        · rw [if_neg c3] at H
          exact absurd H (by simp)
      · rw [if_neg c2] at H
        have c2b0 : decide (x8_1 < (l0.length : Int)) = false := decide_eq_false c2
        clear c2
        by_cases c7 : (l0.length : Int) > 0
        · rw [if_pos c7] at H
          have c7b0 : decide (0 < (l0.length : Int)) = true := decide_eq_true c7
          have c7b1 : decide (0 < l0.length) = true := decide_eq_true (by omega)
          clear c7
          obtain rfl := Option.some.inj H
          go_wp2
          go_ret
          exact ⟨by first | rfl | (simp; done) | (simp [*]; done), by repeat (first | exact Drawn0.refl _ | apply Drawn0.step)⟩
        · rw [if_neg c7] at H
          have c7b0 : decide (0 < (l0.length : Int)) = false := decide_eq_false c7
          have c7b1 : decide (0 < l0.length) = false := decide_eq_false (by omega)
          clear c7
          obtain rfl := Option.some.inj H
          go_wp2
          go_ret
          exact ⟨by first | rfl | (simp; done) | (simp [*]; done), by repeat (first | exact Drawn0.refl _ | apply Drawn0.step)⟩

end Go.Proofs.YtiopgkdldkkonaaDoor.Pn

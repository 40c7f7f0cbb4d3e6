/-
  PRINTED by print.py out of the translation (function bodies, their contracts), mended by hand where it did not build. Not trusted: Lean checks it.
-/
import Derived.Test.YtiopgkdldkkonaaDoorZP0
namespace Go.Proofs.YtiopgkdldkkonaaDoor.Pn
open Go.RowKit Go.Proofs.YtiopgkdldkkonaaDoorW.PrintWords Go.Proofs.YtiopgkdldkkonaaDoorW.PrintLast Go.Proofs.YtiopgkdldkkonaaDoorW.PrintMore
attribute [local go_sem] max2_int min2_int max_two min_two max_three min_three max_four min_four   -- for this text's walks alone
set_option linter.unusedVariables false
set_option linter.unusedSimpArgs false

/-! ### spec_labels: function 18 -/
def spec_labels.l0 : Nat → ByteArray → List ByteArray → Int → Int → Option (List ByteArray)
  | 0, _, _, _, _ => none
  | k + 1, x0, x3, x7, x8 => if x8 < x7 then (if 0 ≤ x8 then (if x8 < (x0.size : Int) then (if (bt x0 x8) = 46 then (if x3.length < 8796093022208 then (spec_labels.l0 k x0 (x3 ++ [(⟨#[]⟩ : ByteArray)]) x7 (wrap64 (x8 + 1))) else (none)) else (if 0 ≤ (wrap64 ((x3.length : Int) - 1)) then (if (wrap64 ((x3.length : Int) - 1)) < (x3.length : Int) then (if x8 ≤ (wrap64 (x8 + 1)) then (if (wrap64 (x8 + 1)) ≤ (x0.size : Int) then (if (rdOf ByteArray.empty x3 (wrap64 ((x3.length : Int) - 1))).size + (x0.extract (x8 : Int).toNat ((wrap64 (x8 + 1)) : Int).toNat).size ≤ 9223372036854775807 then (spec_labels.l0 k x0 (x3.set ((wrap64 ((x3.length : Int) - 1)) : Int).toNat ((rdOf ByteArray.empty x3 (wrap64 ((x3.length : Int) - 1))) ++ (x0.extract (x8 : Int).toNat ((wrap64 (x8 + 1)) : Int).toNat))) x7 (wrap64 (x8 + 1))) else (none)) else (none)) else (none)) else (none)) else (none))) else (none)) else (none)) else (some x3)
def spec_labels.f (k : Nat) (a0 : ByteArray) : Option (List ByteArray) := spec_labels.l0 k a0 (([(⟨#[]⟩ : ByteArray)] : List ByteArray)) (a0.size : Int) 0
theorem spec_labels.mono_l : ∀ k, (∀ y0 y1 y2 y3, LeO (spec_labels.l0 k y0 y1 y2 y3) (spec_labels.l0 (k + 1) y0 y1 y2 y3))
  | 0 => fun _ _ _ _ r h => by simp [spec_labels.l0] at h
  | k + 1 => by
    have ih0 := spec_labels.mono_l k
    · intro y0 y1 y2 y3
      unfold spec_labels.l0
      repeat' first
      | (with_reducible exact ih0 _ _ _ _)
      | (with_reducible exact LeO.refl _)
      | (with_reducible exact LeO.none _)
      | (with_reducible refine LeO.ite ?_ ?_)
      | (with_reducible refine LeO.bind ?_ (fun _ => ?_))
      | exact ih0 _ _ _ _
      | exact LeO.none _
      | refine LeO.ite ?_ ?_
      | refine LeO.bind ?_ (fun _ => ?_)
theorem spec_labels.mono : ∀ a0 k, LeO (spec_labels.f k a0) (spec_labels.f (k + 1) a0) := by
  intro a0 k
  have ih0 := spec_labels.mono_l k
  unfold spec_labels.f
  repeat' first
      | (with_reducible exact ih0 _ _ _ _)
      | (with_reducible exact LeO.refl _)
      | (with_reducible exact LeO.none _)
      | (with_reducible refine LeO.ite ?_ ?_)
      | (with_reducible refine LeO.bind ?_ (fun _ => ?_))
      | exact ih0 _ _ _ _
      | exact LeO.none _
      | refine LeO.ite ?_ ?_
      | refine LeO.bind ?_ (fun _ => ?_)
def spec_labels.T7 : Bool × List (List Nat × List Nat) := (true, [([], []), ([], []), ([1], [1]), ([2], [2]), ([0, 3], [0, 3]), ([4], [4]), ([], []), ([], []), ([], []), ([8], [8]), ([6, 7, 9], [6, 7, 9]), ([5, 10], [5, 10]), ([0, 3, 0, 1, 2, 3, 4, 5, 6, 7, 8, 9, 10, 11], [0, 3]), ([12, 11, 0, 1, 2, 3, 4, 5, 6, 7, 8, 9, 10, 11], [11, 12])])
def spec_labels.B7 : List Nat := [0, 0, 2, 6, 15, 31, 0, 0, 0, 256, 960, 2047, 4095, 8191]
theorem spec_labels.tab7 : rtab .any (opsOf Tryd.f18 7) = spec_labels.T7 := by kernel_rfl
theorem spec_labels.bits7 : waitsOk spec_labels.T7.2 spec_labels.B7 = true := by kernel_rfl
set_option maxHeartbeats 8000000 in
set_option maxRecDepth 100000 in
theorem spec_labels.calls (k : Nat) (a0 : ByteArray) (r : List ByteArray) (w : World) (h : spec_labels.f k a0 = some r) :
    Calls Tryd.prog 18 #[.string a0] w fun e w' => ∃ v0_ : Value, e = .returned (v0_) ∧ Kd.R Kd.string 9 w' w.heap.size (fun _ => True) v0_ r ∧ Below w.heap.size w w' := by
  have HB := Aside0.mk (Below.refl w.heap.size w)
  have H : (spec_labels.l0 k a0 (([(⟨#[]⟩ : ByteArray)] : List ByteArray)) (a0.size : Int) 0) = some r := h
  clear h
  obtain ⟨y212, hy212⟩ : ∃ y_ : List ByteArray, y_ = (([(⟨#[]⟩ : ByteArray)] : List ByteArray)) := ⟨_, rfl⟩
  replace H : (spec_labels.l0 k a0 y212 (a0.size : Int) 0) = some r := by first | (rw [hy212]; with_reducible exact H) | (have H2_ := (Option.bind_some _ _).symm.trans H; rw [hy212]; with_reducible exact H2_) | (have H2_ := (Option.bind_some _ _).symm.trans H; with_reducible exact H2_) | with_reducible exact H | (rw [hy212]; exact H) | exact H
  have Ny212 := Aside0.mk hy212
  clear hy212
  have H' := Aside0.mk H
  clear H
  go_enter Tryd.func18, Tryd.ntmps18
  go_wp2_with (first | ((with_reducible refine gate_dst (N := 5) rfl ?_); refine Kd.R_lit Kd.string _ 9 ?hg (N := 5) ?hd (xs := ([(⟨#[]⟩ : ByteArray)] : List ByteArray)) (inner := [.string (⟨#[]⟩ : ByteArray)]) (ok := fun _ => True) (okp := fun _ => True) ?hr ?hp (fun _ hk => hk) trivial (Below.refl _ _) (Nat.le_refl _) (by simp) ?_; (case hd => rfl); (case hg => rfl); (case hr => first | (go_simp; done) | (go_simp; rfl)); (case hp => exact (Reps.one (show Kd.M Kd.string _ _ _ (⟨#[]⟩ : ByteArray) [.string (⟨#[]⟩ : ByteArray)] from rfl) (Reps.none _ _))); intro v213 w2 ho3 hb hg_ hnew_; clear hg_ hnew_; (first | rw [← Ny212.out] at ho3 | (simp only [Int.reduceToNat] at ho3; rw [← Ny212.out] at ho3)); have n0_ := Aside0.mk (Kd.R_lower ho3 (below_size (by repeat (first | (with_reducible first | exact HB.out | apply below_alloc | apply pw_below_drewN | apply below_drew1) | exact HB.out)))); have n1_ := Aside0.mk (below_step (by repeat (first | (with_reducible first | exact HB.out | apply below_alloc | apply pw_below_drewN | apply below_drew1) | exact HB.out)) hb); clear HB; have HO214 := n0_; have HB := n1_; clear n0_ n1_; clear hb ho3))
  go_loopg [3, 8] k (fun kq v3 v8 w' => ∃ (x3_1 : List ByteArray) (x8_1 : Int), v8 = .int .i64 x8_1 ∧ Aside0 (spec_labels.l0 kq a0 x3_1 (a0.size : Int) x8_1 = some r) ∧ Aside0 (kq ≤ k) ∧ Aside0 (Kd.R Kd.string 9 w' w.heap.size (fun _ => True) v3 x3_1) ∧ Aside0 (Below w.heap.size w w'))
  case atStart => exact ⟨(y212), (0), (by first | rfl | (simp; done) | (simp [*]; done)), H', ⟨Nat.le_refl _⟩, ⟨by (with_reducible repeat (first | apply Kd.R_alloc | apply Kd.R_drewN | apply Kd.R_drew)); exact HO214.out⟩, ⟨by repeat (first | (with_reducible first | exact HB.out | apply below_alloc | apply pw_below_drewN | apply below_drew1) | exact HB.out)⟩⟩
  case round =>
    clear H'
    try clear c1
    try clear p2
    obtain ⟨x3_1, x8_1, rfl, HA, HK1, HO_3, HB⟩ := hrel
    cases gk with
    | zero => exact absurd HA.out (by simp [spec_labels.l0])
    | succ k1 =>
      have H := HA.out
      clear HA
      simp only [spec_labels.l0] at H
      by_cases c4 : x8_1 < (a0.size : Int)
      · rw [if_pos c4] at H
        have c4b0 : decide (x8_1 < (a0.size : Int)) = true := decide_eq_true c4
        clear c4
        by_cases c5 : 0 ≤ x8_1
        · rw [if_pos c5] at H
          have c5b0 : decide (0 ≤ x8_1) = true := decide_eq_true c5
          clear c5
          by_cases c6 : x8_1 < (a0.size : Int)
          · rw [if_pos c6] at H
            have c6b0 : decide (x8_1 < (a0.size : Int)) = true := decide_eq_true c6
            clear c6
            by_cases c8 : (bt a0 x8_1) = 46
            · rw [if_pos c8] at H
              have c8b0 : ((bt a0 x8_1) == 46) = true := beq_iff_eq.mpr c8
              have c8b1 : ((bt a0 x8_1) != 46) = false := bne_eq_false_iff_eq.mpr c8
              clear c8
              by_cases c9 : x3_1.length < 8796093022208
              · rw [if_pos c9] at H
                have LMc9 := Aside0.mk c9
                clear c9
                obtain ⟨y215, hy215⟩ : ∃ y_ : List ByteArray, y_ = (x3_1 ++ [(⟨#[]⟩ : ByteArray)]) := ⟨_, rfl⟩
                replace H : (spec_labels.l0 k1 a0 y215 (a0.size : Int) (wrap64 (x8_1 + 1))) = some r := by first | (rw [hy215]; with_reducible exact H) | (have H2_ := (Option.bind_some _ _).symm.trans H; rw [hy215]; with_reducible exact H2_) | (have H2_ := (Option.bind_some _ _).symm.trans H; with_reducible exact H2_) | with_reducible exact H | (rw [hy215]; exact H) | exact H
                have Ny215 := Aside0.mk hy215
                clear hy215
                have H' := Aside0.mk H
                clear H
                have p7 : 0 ≤ (x8_1 : Int) := of_decide_eq_true (by first | (with_reducible assumption) | assumption)
                have q7 : x8_1 < (a0.size : Int) := of_decide_eq_true (by first | (with_reducible assumption) | assumption)
                have hx7 := bt_at a0 x8_1
                replace p7 := eq_true p7
                replace q7 := eq_true q7
                go_wp2_with (first | ((with_reducible refine gate_builtin (b := .append) (xs := #[.tmp 15, .tmp 16]) rfl ?_); at_builtin; refine Kd.R_append Kd.string (w0 := w) w.heap.size rfl (.tmp 15) (.tmp 16) 31 9 (.string ⟨#[]⟩) 16 rfl Tryd.underlying31 info9 rfl (by decide) (by omega) u3 x3_1 (⟨#[]⟩ : ByteArray) [.string (⟨#[]⟩ : ByteArray)] (fun _ => True) (fun _ => False) rfl rfl ?aP (fun _ hk => hk.elim) ?aF ?aO ?aB ?aS ?aL ?_; (case aP => exact rfl); (case aB => exact (by repeat (first | (with_reducible first | exact HB.out | apply below_alloc | apply pw_below_drewN | apply below_drew1) | exact HB.out))); (case aF => exact (fun _ _ => trivial)); (case aO => exact (by (with_reducible repeat (first | apply Kd.R_alloc | apply Kd.R_drewN | apply Kd.R_drew)); exact HO_3.out)); (case aS => exact (below_size (by repeat (first | (with_reducible first | exact HB.out | apply below_alloc | apply pw_below_drewN | apply below_drew1) | exact HB.out)))); (case aL => have := LMc9.out; omega); intro v216 w10 ho hb hg hat; rw [← Ny215.out] at ho; have n0_ := Aside0.mk (hb); have n1_ := Aside0.mk (ho); clear HB; clear HO_3; have HB := n0_; have HO217 := n1_; clear n0_ n1_; clear ho hb hg hat))
                go_roundg k1
                case measure => have := HK1.out; omega
                case rel => exact ⟨(y215), (wrap64 (x8_1 + 1)), (by first | rfl | (simp; done) | (simp [*]; done)), H', ⟨by have := HK1.out; omega⟩, ⟨by (with_reducible repeat (first | apply Kd.R_alloc | apply Kd.R_drewN | apply Kd.R_drew)); exact HO217.out⟩, ⟨by repeat (first | (with_reducible first | exact HB.out | apply below_alloc | apply pw_below_drewN | apply below_drew1) | exact HB.out)⟩⟩
              · rw [if_neg c9] at H
                exact absurd H (by simp)
            · rw [if_neg c8] at H
              have c8b0 : ((bt a0 x8_1) == 46) = false := beq_eq_false_iff_ne.mpr c8
              have c8b1 : ((bt a0 x8_1) != 46) = true := bne_iff_ne.mpr c8
              obtain ⟨ji11, hji11⟩ : ∃ j_ : Int, (wrap64 ((x3_1.length : Int) - 1)) = j_ := ⟨_, rfl⟩
              replace H : (if 0 ≤ (ji11) then (if (ji11) < (x3_1.length : Int) then (if x8_1 ≤ (wrap64 (x8_1 + 1)) then (if (wrap64 (x8_1 + 1)) ≤ (a0.size : Int) then (if (rdOf ByteArray.empty x3_1 (ji11)).size + (a0.extract (x8_1 : Int).toNat ((wrap64 (x8_1 + 1)) : Int).toNat).size ≤ 9223372036854775807 then (spec_labels.l0 k1 a0 (x3_1.set ((ji11) : Int).toNat ((rdOf ByteArray.empty x3_1 (ji11)) ++ (a0.extract (x8_1 : Int).toNat ((wrap64 (x8_1 + 1)) : Int).toNat))) (a0.size : Int) (wrap64 (x8_1 + 1))) else (none)) else (none)) else (none)) else (none)) else (none)) = some r := by first | (rw [hji11] at H; exact H) | (simp only [hji11] at H ⊢; exact H)
              have hji11w : (IntKind.i64.wrap ((x3_1.length : Int) - 1)) = ji11 := (i64_w _).trans hji11
              by_cases c12 : 0 ≤ (ji11)
              · rw [if_pos c12] at H
                have c12b0 : decide (0 ≤ (ji11)) = true := decide_eq_true c12
                clear c12
                by_cases c13 : (ji11) < (x3_1.length : Int)
                · rw [if_pos c13] at H
                  have c13b0 : decide ((ji11) < (x3_1.length : Int)) = true := decide_eq_true c13
                  clear c13
                  have c14b0 := eq_true (of_decide_eq_true (by first | (with_reducible assumption) | assumption) : 0 ≤ x8_1)
                  by_cases c15 : x8_1 ≤ (wrap64 (x8_1 + 1))
                  · rw [if_pos c15] at H
                    have c15b0 := eq_true c15
                    have c15b1 : decide (x8_1 ≤ (wrap64 (x8_1 + 1))) = true := decide_eq_true c15
                    by_cases c16 : (wrap64 (x8_1 + 1)) ≤ (a0.size : Int)
                    · rw [if_pos c16] at H
                      have c16b0 := eq_true c16
                      have c16b1 : decide ((wrap64 (x8_1 + 1)) ≤ (a0.size : Int)) = true := decide_eq_true c16
                      by_cases c17 : (rdOf ByteArray.empty x3_1 (ji11)).size + (a0.extract (x8_1 : Int).toNat ((wrap64 (x8_1 + 1)) : Int).toNat).size ≤ 9223372036854775807
                      · rw [if_pos c17] at H
                        have c17b0 := eq_true c17
                        have c17b1 : decide ((rdOf ByteArray.empty x3_1 (ji11)).size + (a0.extract (x8_1 : Int).toNat ((wrap64 (x8_1 + 1)) : Int).toNat).size ≤ 9223372036854775807) = true := decide_eq_true c17
                        try have c17b2 : (9223372036854775807 < (rdOf ByteArray.empty x3_1 (ji11)).size + (a0.extract (x8_1 : Int).toNat ((wrap64 (x8_1 + 1)) : Int).toNat).size) = False := eq_false (Nat.not_lt.2 c17)
                        have c17b3 : (9223372036854775807 < (rdOf ByteArray.empty x3_1 (ji11)).size + ((wrap64 (x8_1 + 1)).toNat - (x8_1 : Int).toNat)) = False := by
                          have he : (a0.extract (x8_1 : Int).toNat ((wrap64 (x8_1 + 1)) : Int).toNat).size = (wrap64 (x8_1 + 1)).toNat - (x8_1 : Int).toNat := by rw [ByteArray.size_extract]; omega
                          rw [← he]; exact eq_false (Nat.not_lt.2 c17)
                        obtain ⟨y219, hy219⟩ : ∃ y_ : List ByteArray, y_ = (x3_1.set ((ji11) : Int).toNat ((rdOf ByteArray.empty x3_1 (ji11)) ++ (a0.extract (x8_1 : Int).toNat ((wrap64 (x8_1 + 1)) : Int).toNat))) := ⟨_, rfl⟩
                        replace H : (spec_labels.l0 k1 a0 y219 (a0.size : Int) (wrap64 (x8_1 + 1))) = some r := by first | (rw [hy219]; with_reducible exact H) | (have H2_ := (Option.bind_some _ _).symm.trans H; rw [hy219]; with_reducible exact H2_) | (have H2_ := (Option.bind_some _ _).symm.trans H; with_reducible exact H2_) | with_reducible exact H | (rw [hy219]; exact H) | exact H
                        have Ny219 := Aside0.mk hy219
                        clear hy219
                        have H' := Aside0.mk H
                        clear H
                        have p7 : 0 ≤ (x8_1 : Int) := of_decide_eq_true (by first | (with_reducible assumption) | assumption)
                        have q7 : x8_1 < (a0.size : Int) := of_decide_eq_true (by first | (with_reducible assumption) | assumption)
                        have hx7 := bt_at a0 x8_1
                        replace p7 := eq_true p7
                        replace q7 := eq_true q7
                        try go_wp2
                        have n0_ := Aside0.mk (Kd.R_drew HO_3.out)
                        have n1_ := Aside0.mk (below_drew1 HB.out)
                        clear HO_3
                        clear HB
                        have HO_3 := n0_
                        have HB := n1_
                        clear n0_ n1_
                        obtain ⟨Ao20, co20, eo20⟩ := Kd.R_slice HO_3.out
                        (first | subst eo20 | (injection eo20 with f1_ f2_ f3_; have f4_ := f1_.symm; have f5_ := f3_.symm; clear f1_ f2_ f3_; subst f4_; subst f5_))
                        have p218 : 0 ≤ ((ji11) : Int) := of_decide_eq_true (by first | (with_reducible assumption) | assumption)
                        have q218 : (ji11) < (x3_1.length : Int) := of_decide_eq_true (by first | (with_reducible assumption) | assumption)
                        obtain ⟨ad218, e218, hx218_0⟩ := Kd.at_string (Kd.R_reads' HO_3.out).2.2 (ji11) p218 q218
                        cases e218
                        replace p218 := eq_true p218
                        replace q218 := eq_true q218
                        have p18 : 0 ≤ ((ji11) : Int) := of_decide_eq_true (by first | (with_reducible assumption) | assumption)
                        have q18 : ((ji11) : Int) < ((x3_1.length : Int) : Int) := of_decide_eq_true (by first | (with_reducible assumption) | assumption)
                        obtain ⟨go18, co18, eo18, gb18, gl18, cl18, HG18⟩ := Kd.R_form HO_3.out (by omega)
                        (first | cases eo18 | (injection eo18 with ea_ en_ ec_; (first | subst ea_ | (injection ea_ with ea_; subst ea_)); subst ec_; clear en_))
                        have GB18 := Aside0.mk gb18
                        have GG18 := Aside0.mk HG18
                        clear gb18 gl18 HG18
                        (first | simp only [add_plain] at hx218_0 | skip)
                        obtain ⟨hx18_0, hf18_0⟩ := Kd.R_celln (⟨#[]⟩ : ByteArray) HO_3.out ((ji11) : Int) p18 q18
                        replace p18 := eq_true p18
                        replace q18 := eq_true q18
                        have HP21 := Kd.R_putn HO_3.out ((ji11) : Int) ((rdOf ByteArray.empty x3_1 (ji11)) ++ (a0.extract (x8_1 : Int).toNat ((wrap64 (x8_1 + 1)) : Int).toNat))
                        rw [← Ny219.out] at HP21
                        have HQ21 := Aside0.mk HP21
                        clear HP21
                        refine start_ (n := 14) (S := fun w' => w'.cell? ⟨go18, ((ji11)).toNat, none⟩ = some (.string (rdOf ByteArray.empty x3_1 (ji11)))) (ds := [13]) #[false, false, false, false, false, false, false, false, false, false, false, false, false, false] (by kernel_rfl) rfl rfl (hx218_0) (fun hHeld => ?_); refine with_tabW spec_labels.tab7 spec_labels.bits7 (fun HT_ HW_ => ?_)
                        generalize wr.drew = w19 at HO_3 HB GG18 HQ21 hf18_0 hx18_0 hx218_0 hHeld ⊢
                        refine pure_ (i := 0) (N := some 18) (v := ?_) (a' := ?_) #[true, false, false, false, false, false, false, false, false, false, false, false, false, false] rfl rfl (any_of HT_.out (by kernel_rfl)) (fun _ _ _ h => h) (Or.inl ⟨by rfl, ?_⟩) ?_ ?_
                        rotate_left
                        · intro w'
                          go_simp
                          with_reducible rfl
                        rotate_left
                        · simp only [Act.put, List.setIfInBounds_toArray, List.set_cons_zero, List.set_cons_succ, i64_w, i32_w]
                          rfl
                        refine pure_ (i := 1) (N := some 19) (v := ?_) (a' := ?_) #[true, true, false, false, false, false, false, false, false, false, false, false, false, false] rfl rfl (any_of HT_.out (by kernel_rfl)) (fun _ _ _ h => h) (Or.inl ⟨by rfl, ?_⟩) ?_ ?_
                        rotate_left
                        · intro w'
                          go_simp
                          with_reducible rfl
                        rotate_left
                        · simp only [Act.put, List.setIfInBounds_toArray, List.set_cons_zero, List.set_cons_succ, i64_w, i32_w]
                          rfl
                        refine pure_ (i := 2) (N := some 20) (v := ?_) (a' := ?_) #[true, true, true, false, false, false, false, false, false, false, false, false, false, false] rfl rfl (any_of HT_.out (by kernel_rfl)) (fun _ _ _ h => h) (Or.inl ⟨by rfl, ?_⟩) ?_ ?_
                        rotate_left
                        · intro w'
                          go_simp
                          with_reducible rfl
                        rotate_left
                        · simp only [Act.put, List.setIfInBounds_toArray, List.set_cons_zero, List.set_cons_succ, i64_w, i32_w]
                          rfl
                        refine pure_ (i := 3) (N := some 21) (v := ?_) (a' := ?_) #[true, true, true, true, false, false, false, false, false, false, false, false, false, false] rfl rfl (any_of HT_.out (by kernel_rfl)) (fun _ _ _ h => h) (Or.inl ⟨by rfl, ?_⟩) ?_ ?_
                        rotate_left
                        · intro w'
                          go_simp
                          with_reducible rfl
                        rotate_left
                        · simp only [Act.put, List.setIfInBounds_toArray, List.set_cons_zero, List.set_cons_succ, i64_w, i32_w]
                          rfl
                        refine pure_ (i := 4) (N := some 22) (v := ?_) (a' := ?_) #[true, true, true, true, true, false, false, false, false, false, false, false, false, false] rfl rfl (any_of HT_.out (by kernel_rfl)) (fun _ _ _ h => h) (Or.inl ⟨by rfl, ?_⟩) ?_ ?_
                        rotate_left
                        · intro w'
                          go_simp
                          with_reducible rfl
                        rotate_left
                        · simp only [Act.put, List.setIfInBounds_toArray, List.set_cons_zero, List.set_cons_succ, i64_w, i32_w]
                          rfl
                        refine pure_ (i := 6) (N := some 24) (v := ?_) (a' := ?_) #[true, true, true, true, true, false, true, false, false, false, false, false, false, false] rfl rfl (any_of HT_.out (by kernel_rfl)) (fun _ _ _ h => h) (Or.inl ⟨by rfl, ?_⟩) ?_ ?_
                        rotate_left
                        · intro w'
                          go_simp
                          with_reducible rfl
                        rotate_left
                        · simp only [Act.put, List.setIfInBounds_toArray, List.set_cons_zero, List.set_cons_succ, i64_w, i32_w]
                          rfl
                        refine pure_ (i := 7) (N := some 25) (v := ?_) (a' := ?_) #[true, true, true, true, true, false, true, true, false, false, false, false, false, false] rfl rfl (any_of HT_.out (by kernel_rfl)) (fun _ _ _ h => h) (Or.inl ⟨by rfl, ?_⟩) ?_ ?_
                        rotate_left
                        · intro w'
                          go_simp
                          with_reducible rfl
                        rotate_left
                        · simp only [Act.put, List.setIfInBounds_toArray, List.set_cons_zero, List.set_cons_succ, i64_w, i32_w]
                          rfl
                        refine pure_ (i := 8) (N := some 26) (v := ?_) (a' := ?_) #[true, true, true, true, true, false, true, true, true, false, false, false, false, false] rfl rfl (any_of HT_.out (by kernel_rfl)) (fun _ _ _ h => h) (Or.inl ⟨by rfl, ?_⟩) ?_ ?_
                        rotate_left
                        · intro w'
                          go_simp
                          with_reducible rfl
                        rotate_left
                        · simp only [Act.put, List.setIfInBounds_toArray, List.set_cons_zero, List.set_cons_succ, i64_w, i32_w]
                          rfl
                        refine pure_ (i := 9) (N := some 27) (v := ?_) (a' := ?_) #[true, true, true, true, true, false, true, true, true, true, false, false, false, false] rfl rfl (any_of HT_.out (by kernel_rfl)) (fun _ _ _ h => h) (Or.inl ⟨by rfl, ?_⟩) ?_ ?_
                        rotate_left
                        · intro w'
                          go_simp
                          with_reducible rfl
                        rotate_left
                        · simp only [Act.put, List.setIfInBounds_toArray, List.set_cons_zero, List.set_cons_succ, i64_w, i32_w]
                          rfl
                        refine pure_ (i := 10) (N := some 28) (v := ?_) (a' := ?_) #[true, true, true, true, true, false, true, true, true, true, true, false, false, false] rfl rfl (any_of HT_.out (by kernel_rfl)) (fun _ _ _ h => h) (Or.inl ⟨by rfl, ?_⟩) ?_ ?_
                        rotate_left
                        · intro w'
                          go_simp
                          with_reducible rfl
                        rotate_left
                        · simp only [Act.put, List.setIfInBounds_toArray, List.set_cons_zero, List.set_cons_succ, i64_w, i32_w]
                          rfl
                        refine take_ (i := 5) (N := some 23) (v := ?_) (a' := ?_) #[true, true, true, true, true, true, true, true, true, true, true, false, false, false] rfl rfl (take_ofW HT_.out HW_.out (by kernel_rfl)) (fun _ _ _ h => h) (Or.inl ⟨by rfl, ?_⟩) hHeld ?_ ?_
                        rotate_left
                        · intro w' s0
                          go_simp
                          with_reducible rfl
                        rotate_left
                        · simp only [Act.put, List.setIfInBounds_toArray, List.set_cons_zero, List.set_cons_succ, i64_w, i32_w]
                          rfl
                        refine pure_ (i := 11) (N := some 29) (v := ?_) (a' := ?_) #[true, true, true, true, true, true, true, true, true, true, true, true, false, false] rfl rfl (any_of HT_.out (by kernel_rfl)) (fun _ _ _ h => h) (Or.inl ⟨by rfl, ?_⟩) ?_ ?_
                        rotate_left
                        · intro w'
                          go_simp
                          with_reducible rfl
                        rotate_left
                        · simp only [Act.put, List.setIfInBounds_toArray, List.set_cons_zero, List.set_cons_succ, i64_w, i32_w]
                          rfl
                        refine pure_ (i := 12) (N := some 30) (v := ?_) (a' := ?_) #[true, true, true, true, true, true, true, true, true, true, true, true, true, false] rfl rfl (any_of HT_.out (by kernel_rfl)) (fun _ _ _ h => h) (Or.inl ⟨by rfl, ?_⟩) ?_ ?_
                        rotate_left
                        · intro w'
                          go_simp
                          with_reducible rfl
                        rotate_left
                        · simp only [Act.put, List.setIfInBounds_toArray, List.set_cons_zero, List.set_cons_succ, i64_w, i32_w]
                          rfl
                        refine last_ (i := 13) (N := none) #[true, true, true, true, true, true, true, true, true, true, true, true, true, true] rfl rfl (one_of HT_.out (by kernel_rfl)) (by decide) (fun K hK => ?_)
                        refine skip_ (w1 := ?_) (by rfl) rfl ?_ ?_
                        rotate_left
                        · go_simp
                          rfl
                        refine hK.out _ _ ?_
                        clear hK K
                        refine done_ (done_of HT_.out (by kernel_rfl)) ?_
                        try go_wp2
                        go_roundg k1
                        case measure => have := HK1.out; omega
                        case rel => exact ⟨(y219), (wrap64 (x8_1 + 1)), (by first | rfl | (simp; done) | (simp [*]; done)), H', ⟨by have := HK1.out; omega⟩, ⟨by (with_reducible repeat (first | apply Kd.R_alloc | apply Kd.R_drewN | apply Kd.R_drew)); exact HQ21.out⟩, ⟨by repeat (first | (with_reducible first | exact HB.out | apply below_alloc | apply pw_below_drewN | apply below_drew1 | refine below_set ?_ GB18.out) | exact HB.out)⟩⟩
                      · rw [if_neg c17] at H
                        exact absurd H (by simp)
                    · rw [if_neg c16] at H
                      exact absurd H (by simp)
                  · rw [if_neg c15] at H
                    exact absurd H (by simp)
                · rw [if_neg c13] at H
                  exact absurd H (by simp)
              · rw [if_neg c12] at H
                exact absurd H (by simp)
          · rw [if_neg c6] at H
            exact absurd H (by simp)
        · rw [if_neg c5] at H
          exact absurd H (by simp)
      · rw [if_neg c4] at H
        have c4b0 : decide (x8_1 < (a0.size : Int)) = false := decide_eq_false c4
        clear c4
        obtain rfl := Option.some.inj H
        go_wp2
        go_ret
        exact ⟨_, by first | rfl | (simp [errW_none, errW_some] <;> rfl) | (simp [*, errW_none, errW_some] <;> rfl), by (with_reducible repeat (first | apply Kd.R_alloc | apply Kd.R_drewN | apply Kd.R_drew)); exact HO_3.out, by repeat (first | (with_reducible first | exact HB.out | apply below_alloc | apply pw_below_drewN | apply below_drew1) | exact HB.out)⟩

end Go.Proofs.YtiopgkdldkkonaaDoor.Pn
namespace Go.Proofs.YtiopgkdldkkonaaDoor.Pn
open Go.RowKit Go.Proofs.YtiopgkdldkkonaaDoorW.PrintWords Go.Proofs.YtiopgkdldkkonaaDoorW.PrintLast Go.Proofs.YtiopgkdldkkonaaDoorW.PrintMore
attribute [local go_sem] max2_int min2_int max_two min_two max_three min_three max_four min_four   -- for this text's walks alone
set_option linter.unusedVariables false
set_option linter.unusedSimpArgs false

theorem bytesLess_gtr : ∀ a b : List UInt8, (!(Op.bytesLess a b || a == b)) = Op.bytesLess b a
  | [], [] => by simp [Op.bytesLess]
  | _ :: _, [] => by simp [Op.bytesLess]
  | [], _ :: _ => by simp [Op.bytesLess]
  | x :: a, y :: b => by
    have ih := bytesLess_gtr a b
    simp only [Op.bytesLess]
    by_cases hxy : x = y
    · subst hxy
      simp only [Op.bytesLess, UInt8.lt_irrefl, decide_false, Bool.false_or, beq_self_eq_true, Bool.true_and, List.cons_beq_cons]
      exact ih
    · have h1 : (x == y) = false := by simpa using hxy
      have h2 : (y == x) = false := by simpa using fun e => hxy e.symm
      simp only [List.cons_beq_cons, h1, h2, Bool.false_and, Bool.or_false]
      rw [Bool.eq_iff_iff]
      have h3 : x.toNat ≠ y.toNat := fun e => hxy (UInt8.toNat_inj.1 e)
      simp [UInt8.lt_iff_toNat_lt, UInt8.le_iff_toNat_le]
      omega
theorem binOp_gtr_text (t : TypeId) (a b : ByteArray) : binOp .gtr t (.string a) (.string b) = pure (.bool (Op.bytesLess b.toList a.toList)) := by
  rw [← bytesLess_gtr]; simp [binOp, Op.stringOp]
attribute [local go_sem] binOp_gtr_text

/-! ### spec_IDText: function 10 -/
mutual
def spec_IDText.l0 : Nat → List ByteArray → List ByteArray → Int → Int → Option (List ByteArray × Bool)
  | 0, _, _, _, _ => none
  | k + 1, x4, x13, x14, x15 => if x15 < x14 then (if 0 ≤ x15 then (if x15 < (x13.length : Int) then (if (rdOf ByteArray.empty x13 x15).toList = ([] : List UInt8) then (spec_IDText.j1 k x4 (rdOf ByteArray.empty x13 x15) x13 x14 x15 true) else (if 0 < ((rdOf ByteArray.empty x13 x15).size : Int) then (if (bt (rdOf ByteArray.empty x13 x15) 0) = 48 then (spec_IDText.j1 k x4 (rdOf ByteArray.empty x13 x15) x13 x14 x15 (decide (((rdOf ByteArray.empty x13 x15).size : Int) > 1))) else (spec_IDText.j1 k x4 (rdOf ByteArray.empty x13 x15) x13 x14 x15 false)) else (none))) else (none)) else (none)) else (if 0 < (x4.length : Int) then (if ((rdOf ByteArray.empty x4 0).size : Int) > 1 then (some (([] : List ByteArray), false)) else (if (Op.bytesLess ([50] : List UInt8) ((rdOf ByteArray.empty x4 0).toList)) = true then (some (([] : List ByteArray), false)) else (if (Op.bytesLess ((rdOf ByteArray.empty x4 0).toList) ([50] : List UInt8)) = true then (if 1 < (x4.length : Int) then (if ((rdOf ByteArray.empty x4 1).size : Int) > 2 then (some (([] : List ByteArray), false)) else (if ((rdOf ByteArray.empty x4 1).size : Int) = 2 then (if (Op.bytesLess ([51, 57] : List UInt8) ((rdOf ByteArray.empty x4 1).toList)) = true then (some (([] : List ByteArray), false)) else (some (x4, true))) else (some (x4, true)))) else (none)) else (some (x4, true))))) else (none))
def spec_IDText.j1 : Nat → List ByteArray → ByteArray → List ByteArray → Int → Int → Bool → Option (List ByteArray × Bool)
  | 0, _, _, _, _, _, _ => none
  | k + 1, x4, x6, x13, x14, x15, x30 => if x30 = true then (some (([] : List ByteArray), false)) else (spec_IDText.l1 k x4 x6 x13 x14 x15 (x6.size : Int) 0)
def spec_IDText.l1 : Nat → List ByteArray → ByteArray → List ByteArray → Int → Int → Int → Int → Option (List ByteArray × Bool)
  | 0, _, _, _, _, _, _, _ => none
  | k + 1, x4, x6, x13, x14, x15, x32, x33 => if x33 < x32 then (if 0 ≤ x33 then (if x33 < (x6.size : Int) then (if (bt x6 x33) < 48 then (some (([] : List ByteArray), false)) else (if (bt x6 x33) > 57 then (some (([] : List ByteArray), false)) else (spec_IDText.l1 k x4 x6 x13 x14 x15 x32 (wrap64 (x33 + 1))))) else (none)) else (none)) else (spec_IDText.l0 k x4 x13 x14 (wrap64 (x15 + 1)))
end
def spec_IDText.f (k : Nat) (a0 : ByteArray) : Option (List ByteArray × Bool) := (spec_labels.f k a0).bind fun t220 => (if (t220.length : Int) < 2 then (some (([] : List ByteArray), false)) else (spec_IDText.l0 k t220 t220 (t220.length : Int) 0))
theorem spec_IDText.mono_l : ∀ k, (∀ y0 y1 y2 y3, LeO (spec_IDText.l0 k y0 y1 y2 y3) (spec_IDText.l0 (k + 1) y0 y1 y2 y3)) ∧ (∀ y0 y1 y2 y3 y4 y5, LeO (spec_IDText.j1 k y0 y1 y2 y3 y4 y5) (spec_IDText.j1 (k + 1) y0 y1 y2 y3 y4 y5)) ∧ (∀ y0 y1 y2 y3 y4 y5 y6, LeO (spec_IDText.l1 k y0 y1 y2 y3 y4 y5 y6) (spec_IDText.l1 (k + 1) y0 y1 y2 y3 y4 y5 y6))
  | 0 => ⟨fun _ _ _ _ r h => by simp [spec_IDText.l0] at h, fun _ _ _ _ _ _ r h => by simp [spec_IDText.j1] at h, fun _ _ _ _ _ _ _ r h => by simp [spec_IDText.l1] at h⟩
  | k + 1 => by
    obtain ⟨ih0, ih1, ih2⟩ := spec_IDText.mono_l k
    refine ⟨?_, ?_, ?_⟩
    · intro y0 y1 y2 y3
      unfold spec_IDText.l0
      repeat' first
      | (with_reducible exact ih0 _ _ _ _)
      | (with_reducible exact ih1 _ _ _ _ _ _)
      | (with_reducible exact ih2 _ _ _ _ _ _ _)
      | (with_reducible exact spec_labels.mono _ _)
      | (with_reducible exact LeO.refl _)
      | (with_reducible exact LeO.none _)
      | (with_reducible refine LeO.ite ?_ ?_)
      | (with_reducible refine LeO.bind ?_ (fun _ => ?_))
      | exact ih0 _ _ _ _
      | exact ih1 _ _ _ _ _ _
      | exact ih2 _ _ _ _ _ _ _
      | exact spec_labels.mono _ _
      | exact LeO.none _
      | refine LeO.ite ?_ ?_
      | refine LeO.bind ?_ (fun _ => ?_)
    · intro y0 y1 y2 y3 y4 y5
      unfold spec_IDText.j1
      repeat' first
      | (with_reducible exact ih0 _ _ _ _)
      | (with_reducible exact ih1 _ _ _ _ _ _)
      | (with_reducible exact ih2 _ _ _ _ _ _ _)
      | (with_reducible exact spec_labels.mono _ _)
      | (with_reducible exact LeO.refl _)
      | (with_reducible exact LeO.none _)
      | (with_reducible refine LeO.ite ?_ ?_)
      | (with_reducible refine LeO.bind ?_ (fun _ => ?_))
      | exact ih0 _ _ _ _
      | exact ih1 _ _ _ _ _ _
      | exact ih2 _ _ _ _ _ _ _
      | exact spec_labels.mono _ _
      | exact LeO.none _
      | refine LeO.ite ?_ ?_
      | refine LeO.bind ?_ (fun _ => ?_)
    · intro y0 y1 y2 y3 y4 y5 y6
      unfold spec_IDText.l1
      repeat' first
      | (with_reducible exact ih0 _ _ _ _)
      | (with_reducible exact ih1 _ _ _ _ _ _)
      | (with_reducible exact ih2 _ _ _ _ _ _ _)
      | (with_reducible exact spec_labels.mono _ _)
      | (with_reducible exact LeO.refl _)
      | (with_reducible exact LeO.none _)
      | (with_reducible refine LeO.ite ?_ ?_)
      | (with_reducible refine LeO.bind ?_ (fun _ => ?_))
      | exact ih0 _ _ _ _
      | exact ih1 _ _ _ _ _ _
      | exact ih2 _ _ _ _ _ _ _
      | exact spec_labels.mono _ _
      | exact LeO.none _
      | refine LeO.ite ?_ ?_
      | refine LeO.bind ?_ (fun _ => ?_)
theorem spec_IDText.mono : ∀ a0 k, LeO (spec_IDText.f k a0) (spec_IDText.f (k + 1) a0) := by
  intro a0 k
  obtain ⟨ih0, ih1, ih2⟩ := spec_IDText.mono_l k
  unfold spec_IDText.f
  repeat' first
      | (with_reducible exact ih0 _ _ _ _)
      | (with_reducible exact ih1 _ _ _ _ _ _)
      | (with_reducible exact ih2 _ _ _ _ _ _ _)
      | (with_reducible exact spec_labels.mono _ _)
      | (with_reducible exact LeO.refl _)
      | (with_reducible exact LeO.none _)
      | (with_reducible refine LeO.ite ?_ ?_)
      | (with_reducible refine LeO.bind ?_ (fun _ => ?_))
      | exact ih0 _ _ _ _
      | exact ih1 _ _ _ _ _ _
      | exact ih2 _ _ _ _ _ _ _
      | exact spec_labels.mono _ _
      | exact LeO.none _
      | refine LeO.ite ?_ ?_
      | refine LeO.bind ?_ (fun _ => ?_)
set_option maxHeartbeats 8000000 in
set_option maxRecDepth 100000 in
theorem spec_IDText.calls (k : Nat) (a0 : ByteArray) (r1 : List ByteArray) (r2 : Bool) (w : World) (h : spec_IDText.f k a0 = some (r1, r2)) :
    Calls Tryd.prog 10 #[.string a0] w fun e w' => ∃ v0_ : Value, e = .returned (.tuple #[v0_, .bool r2]) ∧ Kd.R Kd.string 9 w' w.heap.size (fun _ => True) v0_ r1 ∧ Below w.heap.size w w' := by
  have HB := Aside0.mk (Below.refl w.heap.size w)
  have H : ((spec_labels.f k a0).bind fun t220 => (if (t220.length : Int) < 2 then (some (([] : List ByteArray), false)) else (spec_IDText.l0 k t220 t220 (t220.length : Int) 0))) = some (r1, r2) := h
  clear h
  replace H := Option.bind_eq_some_iff.mp H
  obtain ⟨t220, A20, H⟩ := H
  replace H : (if (t220.length : Int) < 2 then (some (([] : List ByteArray), false)) else (spec_IDText.l0 k t220 t220 (t220.length : Int) 0)) = some (r1, r2) := H
  have A2 := Aside0.mk A20
  clear A20
  by_cases c3 : (t220.length : Int) < 2
  · rw [if_pos c3] at H
    have c3b0 : decide ((t220.length : Int) < 2) = true := decide_eq_true c3
    have c3b1 : decide (t220.length < 2) = true := decide_eq_true (by omega)
    clear c3
    simp only [Option.some.injEq, Prod.mk.injEq] at H
    obtain ⟨rfl, rfl⟩ := H
    go_enter Tryd.func10, Tryd.ntmps10
    go_wp2_with (first | ((with_reducible refine gate_callee (f := 18) rfl ?_); refine goesL_ (some 9) rfl rfl Tryd.func18 (by kernel_rfl) rfl #[.string a0] rfl (by (try simp only [List.map_toArray, List.map_cons, List.map_nil]); first | done | rfl | (simp only [List.length_drop, List.length_take]; rfl)) ?_; (with_reducible refine (spec_labels.calls k a0 t220 _ A2.out).mono ?_); rintro e w4 ⟨v221, rfl, ho0, hb⟩; refine ⟨_, rfl, ?_⟩; have n0_ := Aside0.mk (Kd.R_lower ho0 (below_size (by repeat (first | (with_reducible first | exact HB.out | apply below_alloc | apply pw_below_drewN | apply below_drew1) | exact HB.out)))); have n1_ := Aside0.mk (below_step (by repeat (first | (with_reducible first | exact HB.out | apply below_alloc | apply pw_below_drewN | apply below_drew1) | exact HB.out)) hb); clear HB; have HO222 := n0_; have HB := n1_; clear n0_ n1_; (try clear hb); (try clear hb2); (try clear hk); (try clear hi); (try clear ho0); obtain ⟨Ao5, co5, eo5⟩ := Kd.R_slice HO222.out; subst eo5))
    go_ret2
    exact ⟨_, by first | rfl | (simp [errW_none, errW_some] <;> rfl) | (simp [*, errW_none, errW_some] <;> rfl), by first | exact Kd.R_nil _ _ _ _ _ | exact Kd.N_nil _ _ _ _ _ | exact Kd.V_nil _ _ _ _ _ | exact Kd.Q_nil _ _ _ _ _ | exact Kd.S_nil _ _ _ _ _, by repeat (first | (with_reducible first | exact HB.out | apply below_alloc | apply pw_below_drewN | apply below_drew1) | exact HB.out)⟩
  · rw [if_neg c3] at H
    have c3b0 : decide ((t220.length : Int) < 2) = false := decide_eq_false c3
    have c3b1 : decide (t220.length < 2) = false := decide_eq_false (by omega)
    clear c3
    have H' := Aside0.mk H
    clear H
    go_enter Tryd.func10, Tryd.ntmps10
    go_wp2_with (first | ((with_reducible refine gate_callee (f := 18) rfl ?_); refine goesL_ (some 9) rfl rfl Tryd.func18 (by kernel_rfl) rfl #[.string a0] rfl (by (try simp only [List.map_toArray, List.map_cons, List.map_nil]); first | done | rfl | (simp only [List.length_drop, List.length_take]; rfl)) ?_; (with_reducible refine (spec_labels.calls k a0 t220 _ A2.out).mono ?_); rintro e w6 ⟨v221, rfl, ho0, hb⟩; refine ⟨_, rfl, ?_⟩; have n0_ := Aside0.mk (Kd.R_lower ho0 (below_size (by repeat (first | (with_reducible first | exact HB.out | apply below_alloc | apply pw_below_drewN | apply below_drew1) | exact HB.out)))); have n1_ := Aside0.mk (below_step (by repeat (first | (with_reducible first | exact HB.out | apply below_alloc | apply pw_below_drewN | apply below_drew1) | exact HB.out)) hb); clear HB; have HO222 := n0_; have HB := n1_; clear n0_ n1_; (try clear hb); (try clear hb2); (try clear hk); (try clear hi); (try clear ho0); obtain ⟨Ao7, co7, eo7⟩ := Kd.R_slice HO222.out; subst eo7))
    go_loopg [15] k (fun kq v15 w' => ∃ (x15_1 : Int), v15 = .int .i64 x15_1 ∧ Aside0 (spec_IDText.l0 kq t220 t220 (t220.length : Int) x15_1 = some (r1, r2)) ∧ Aside0 (kq ≤ k) ∧ Aside0 (Kd.R Kd.string 9 w' w.heap.size (fun _ => True) (.slice Ao7 t220.length co7) t220) ∧ Aside0 (Kd.R Kd.string 9 w' w.heap.size (fun _ => True) (.slice Ao7 t220.length co7) t220) ∧ Aside0 (Below w.heap.size w w'))
    case atStart => exact ⟨(0), (by first | rfl | (simp; done) | (simp [*]; done)), H', ⟨Nat.le_refl _⟩, ⟨by (with_reducible repeat (first | apply Kd.R_alloc | apply Kd.R_drewN | apply Kd.R_drew)); exact HO222.out⟩, ⟨by (with_reducible repeat (first | apply Kd.R_alloc | apply Kd.R_drewN | apply Kd.R_drew)); exact HO222.out⟩, ⟨by repeat (first | (with_reducible first | exact HB.out | apply below_alloc | apply pw_below_drewN | apply below_drew1) | exact HB.out)⟩⟩
    case round =>
      clear H'
      try clear c1
      try clear p2
      try clear c3
      try clear c3b0
      try clear c3b1
      obtain ⟨x15_1, rfl, HA, HK1, HO_4, HO_13, HB⟩ := hrel
      cases gk with
      | zero => exact absurd HA.out (by simp [spec_IDText.l0])
      | succ k1 =>
        have H := HA.out
        clear HA
        simp only [spec_IDText.l0] at H
        by_cases c8 : x15_1 < (t220.length : Int)
        · rw [if_pos c8] at H
          have c8b0 : decide (x15_1 < (t220.length : Int)) = true := decide_eq_true c8
          clear c8
          by_cases c9 : 0 ≤ x15_1
          · rw [if_pos c9] at H
            have c9b0 : decide (0 ≤ x15_1) = true := decide_eq_true c9
            clear c9
            by_cases c10 : x15_1 < (t220.length : Int)
            · rw [if_pos c10] at H
              have c10b0 : decide (x15_1 < (t220.length : Int)) = true := decide_eq_true c10
              clear c10
              have HC11 := Aside0.mk H
              clear H
              have p229 : 0 ≤ (x15_1 : Int) := of_decide_eq_true (by first | (with_reducible assumption) | assumption)
              have q229 : x15_1 < (t220.length : Int) := of_decide_eq_true (by first | (with_reducible assumption) | assumption)
              obtain ⟨ad229, e229, hx229_0⟩ := Kd.at_string (Kd.R_reads' HO_13.out).2.2 x15_1 p229 q229
              cases e229
              replace p229 := eq_true p229
              replace q229 := eq_true q229
              go_upto_region 7 with (fail)
              go_cut [30] (fun v30 wc => ∃ (kq : Nat) (x30_10 : Bool), v30 = .bool x30_10 ∧ Aside0 (spec_IDText.j1 kq t220 (rdOf ByteArray.empty t220 x15_1) t220 (t220.length : Int) x15_1 x30_10 = some (r1, r2)) ∧ Aside0 (kq ≤ k1) ∧ Aside0 (Kd.R Kd.string 9 wc w.heap.size (fun _ => True) (.slice (some ad229) t220.length co7) t220) ∧ Aside0 (Kd.R Kd.string 9 wc w.heap.size (fun _ => True) (.slice (some ad229) t220.length co7) t220) ∧ Aside0 (Below w.heap.size w wc))
              case first =>
                have H := HC11.out
                clear HC11
                by_cases c12 : (rdOf ByteArray.empty t220 x15_1).toList = ([] : List UInt8)
                · rw [if_pos c12] at H
                  have c12b0 : ((rdOf ByteArray.empty t220 x15_1).toList == ([] : List UInt8)) = true := beq_iff_eq.mpr c12
                  have c12b1 : ((rdOf ByteArray.empty t220 x15_1).toList != ([] : List UInt8)) = false := bne_eq_false_iff_eq.mpr c12
                  clear c12
                  (first | rw [c12b0] | (simp only [i64_w, i32_w]; rw [c12b0]) | skip)
                  have H' := Aside0.mk H
                  clear H
                  go_wp2
                  go_meet
                  case rel => exact ⟨_, (true), (by first | rfl | (simp; done) | (simp [*]; done)), H', ⟨by have := HK1.out; first | omega | exact Nat.le_refl _⟩, ⟨by (with_reducible repeat (first | apply Kd.R_alloc | apply Kd.R_drewN | apply Kd.R_drew)); exact HO_4.out⟩, ⟨by (with_reducible repeat (first | apply Kd.R_alloc | apply Kd.R_drewN | apply Kd.R_drew)); exact HO_13.out⟩, ⟨by repeat (first | (with_reducible first | exact HB.out | apply below_alloc | apply pw_below_drewN | apply below_drew1) | exact HB.out)⟩⟩
                · rw [if_neg c12] at H
                  have c12b0 : ((rdOf ByteArray.empty t220 x15_1).toList == ([] : List UInt8)) = false := beq_eq_false_iff_ne.mpr c12
                  have c12b1 : ((rdOf ByteArray.empty t220 x15_1).toList != ([] : List UInt8)) = true := bne_iff_ne.mpr c12
                  (first | rw [c12b0] | (simp only [i64_w, i32_w]; rw [c12b0]) | skip)
                  by_cases c13 : 0 < ((rdOf ByteArray.empty t220 x15_1).size : Int)
                  · rw [if_pos c13] at H
                    have c13b0 : decide (0 < ((rdOf ByteArray.empty t220 x15_1).size : Int)) = true := decide_eq_true c13
                    have c13b1 : decide (0 < (rdOf ByteArray.empty t220 x15_1).size) = true := decide_eq_true (by omega)
                    clear c13
                    by_cases c15 : (bt (rdOf ByteArray.empty t220 x15_1) 0) = 48
                    · rw [if_pos c15] at H
                      have c15b0 : ((bt (rdOf ByteArray.empty t220 x15_1) 0) == 48) = true := beq_iff_eq.mpr c15
                      have c15b1 : ((bt (rdOf ByteArray.empty t220 x15_1) 0) != 48) = false := bne_eq_false_iff_eq.mpr c15
                      clear c15
                      have H' := Aside0.mk H
                      clear H
                      have p14 : 0 ≤ (0 : Int) := (by omega)
                      have q14 : 0 < (rdOf ByteArray.empty t220 x15_1).size := (by have : (0 : Int) < ((rdOf ByteArray.empty t220 x15_1).size : Int) := of_decide_eq_true (by first | (with_reducible assumption) | assumption); omega)
                      have hx14 : ∀ h : 0 < (rdOf ByteArray.empty t220 x15_1).size, (((rdOf ByteArray.empty t220 x15_1)[0]'h).toNat : Int) = bt (rdOf ByteArray.empty t220 x15_1) 0 := bt_at (rdOf ByteArray.empty t220 x15_1) 0
                      clear p14
                      have qi14 : (0 < ((rdOf ByteArray.empty t220 x15_1).size : Int)) = True := eq_true (of_decide_eq_true (by first | (with_reducible assumption) | assumption))
                      replace q14 := eq_true q14
                      go_wp2
                      go_meet
                      case rel => exact ⟨_, (decide (((rdOf ByteArray.empty t220 x15_1).size : Int) > 1)), (by first | rfl | (simp; done) | (simp [*]; done)), H', ⟨by have := HK1.out; first | omega | exact Nat.le_refl _⟩, ⟨by (with_reducible repeat (first | apply Kd.R_alloc | apply Kd.R_drewN | apply Kd.R_drew)); exact HO_4.out⟩, ⟨by (with_reducible repeat (first | apply Kd.R_alloc | apply Kd.R_drewN | apply Kd.R_drew)); exact HO_13.out⟩, ⟨by repeat (first | (with_reducible first | exact HB.out | apply below_alloc | apply pw_below_drewN | apply below_drew1) | exact HB.out)⟩⟩
                    · rw [if_neg c15] at H
                      have c15b0 : ((bt (rdOf ByteArray.empty t220 x15_1) 0) == 48) = false := beq_eq_false_iff_ne.mpr c15
                      have c15b1 : ((bt (rdOf ByteArray.empty t220 x15_1) 0) != 48) = true := bne_iff_ne.mpr c15
                      have H' := Aside0.mk H
                      clear H
                      have p14 : 0 ≤ (0 : Int) := (by omega)
                      have q14 : 0 < (rdOf ByteArray.empty t220 x15_1).size := (by have : (0 : Int) < ((rdOf ByteArray.empty t220 x15_1).size : Int) := of_decide_eq_true (by first | (with_reducible assumption) | assumption); omega)
                      have hx14 : ∀ h : 0 < (rdOf ByteArray.empty t220 x15_1).size, (((rdOf ByteArray.empty t220 x15_1)[0]'h).toNat : Int) = bt (rdOf ByteArray.empty t220 x15_1) 0 := bt_at (rdOf ByteArray.empty t220 x15_1) 0
                      clear p14
                      have qi14 : (0 < ((rdOf ByteArray.empty t220 x15_1).size : Int)) = True := eq_true (of_decide_eq_true (by first | (with_reducible assumption) | assumption))
                      replace q14 := eq_true q14
                      go_wp2
                      go_meet
                      case rel => exact ⟨_, (false), (by first | rfl | (simp; done) | (simp [*]; done)), H', ⟨by have := HK1.out; first | omega | exact Nat.le_refl _⟩, ⟨by (with_reducible repeat (first | apply Kd.R_alloc | apply Kd.R_drewN | apply Kd.R_drew)); exact HO_4.out⟩, ⟨by (with_reducible repeat (first | apply Kd.R_alloc | apply Kd.R_drewN | apply Kd.R_drew)); exact HO_13.out⟩, ⟨by repeat (first | (with_reducible first | exact HB.out | apply below_alloc | apply pw_below_drewN | apply below_drew1) | exact HB.out)⟩⟩
                  · rw [if_neg c13] at H
                    exact absurd H (by simp)
              case rest =>
                clear HC11
                try clear c1
                try clear p1
                try clear q1
                try clear hx1
                try clear qi1
                try clear p2
                try clear q2
                try clear hx2
                try clear c3
                try clear c3b0
                try clear c3b1
                try clear c8
                try clear c8b0
                try clear c9
                try clear c9b0
                try clear c10
                try clear c10b0
                try clear c12
                try clear c12b0
                try clear c12b1
                try clear c13
                try clear c13b0
                try clear c13b1
                try clear p14
                try clear q14
                try clear hx14
                try clear qi14
                try clear c15
                try clear c15b0
                try clear c15b1
                try clear hx229_0
                try clear p14
                try clear p2
                try clear p229
                try clear q14
                try clear q229
                obtain ⟨kq, x30_10, rfl, HA, HJ10, HO_4, HO_13, HB⟩ := hcut
                cases kq with
                | zero => exact absurd HA.out (by simp [spec_IDText.j1])
                | succ kj10 =>
                  have H := HA.out
                  clear HA
                  simp only [spec_IDText.j1] at H
                  by_cases c16 : x30_10 = true
                  · subst c16
                    have H1 : (some (([] : List ByteArray), false)) = some (r1, r2) := by rw [if_pos rfl] at H; exact H
                    clear H
                    have H := H1
                    clear H1
                    simp only [Option.some.injEq, Prod.mk.injEq] at H
                    obtain ⟨rfl, rfl⟩ := H
                    go_wp2
                    go_ret2
                    exact ⟨_, by first | rfl | (simp [errW_none, errW_some] <;> rfl) | (simp [*, errW_none, errW_some] <;> rfl), by first | exact Kd.R_nil _ _ _ _ _ | exact Kd.N_nil _ _ _ _ _ | exact Kd.V_nil _ _ _ _ _ | exact Kd.Q_nil _ _ _ _ _ | exact Kd.S_nil _ _ _ _ _, by repeat (first | (with_reducible first | exact HB.out | apply below_alloc | apply pw_below_drewN | apply below_drew1) | exact HB.out)⟩
                  · replace c16 := Bool.eq_false_iff.mpr c16
                    subst c16
                    have H1 : (spec_IDText.l1 kj10 t220 (rdOf ByteArray.empty t220 x15_1) t220 (t220.length : Int) x15_1 ((rdOf ByteArray.empty t220 x15_1).size : Int) 0) = some (r1, r2) := by rw [if_neg (show ¬ (false = true) by decide)] at H; exact H
                    clear H
                    have H := H1
                    clear H1
                    have H' := Aside0.mk H
                    clear H
                    go_wp2
                    go_loopg [33] kj10 (fun kq v33 w' => ∃ (x33_3 : Int), v33 = .int .i64 x33_3 ∧ Aside0 (spec_IDText.l1 kq t220 (rdOf ByteArray.empty t220 x15_1) t220 (t220.length : Int) x15_1 ((rdOf ByteArray.empty t220 x15_1).size : Int) x33_3 = some (r1, r2)) ∧ Aside0 (kq ≤ kj10) ∧ Aside0 (Kd.R Kd.string 9 w' w.heap.size (fun _ => True) (.slice (some ad229) t220.length co7) t220) ∧ Aside0 (Kd.R Kd.string 9 w' w.heap.size (fun _ => True) (.slice (some ad229) t220.length co7) t220) ∧ Aside0 (Below w.heap.size w w'))
                    case atStart => exact ⟨(0), (by first | rfl | (simp; done) | (simp [*]; done)), H', ⟨Nat.le_refl _⟩, ⟨by (with_reducible repeat (first | apply Kd.R_alloc | apply Kd.R_drewN | apply Kd.R_drew)); exact HO_4.out⟩, ⟨by (with_reducible repeat (first | apply Kd.R_alloc | apply Kd.R_drewN | apply Kd.R_drew)); exact HO_13.out⟩, ⟨by repeat (first | (with_reducible first | exact HB.out | apply below_alloc | apply pw_below_drewN | apply below_drew1) | exact HB.out)⟩⟩
                    case round =>
                      clear H'
                      try clear c1
                      try clear p1
                      try clear q1
                      try clear hx1
                      try clear qi1
                      try clear p2
                      try clear q2
                      try clear hx2
                      try clear c3
                      try clear c3b0
                      try clear c3b1
                      try clear c8
                      try clear c8b0
                      try clear c9
                      try clear c9b0
                      try clear c10
                      try clear c10b0
                      try clear c12
                      try clear c12b0
                      try clear c12b1
                      try clear c13
                      try clear c13b0
                      try clear c13b1
                      try clear p14
                      try clear q14
                      try clear hx14
                      try clear qi14
                      try clear c15
                      try clear c15b0
                      try clear c15b1
                      try clear c16
                      try clear hx229_0
                      try clear p1
                      try clear p14
                      try clear p2
                      try clear p229
                      try clear q1
                      try clear q14
                      try clear q2
                      try clear q229
                      obtain ⟨x33_3, rfl, HA, HK3, HO_4, HO_13, HB⟩ := hrel
                      cases gk with
                      | zero => exact absurd HA.out (by simp [spec_IDText.l1])
                      | succ k3 =>
                        have H := HA.out
                        clear HA
                        simp only [spec_IDText.l1] at H
                        by_cases c17 : x33_3 < ((rdOf ByteArray.empty t220 x15_1).size : Int)
                        · rw [if_pos c17] at H
                          have c17b0 : decide (x33_3 < ((rdOf ByteArray.empty t220 x15_1).size : Int)) = true := decide_eq_true c17
                          clear c17
                          by_cases c18 : 0 ≤ x33_3
                          · rw [if_pos c18] at H
                            have c18b0 : decide (0 ≤ x33_3) = true := decide_eq_true c18
                            clear c18
                            by_cases c19 : x33_3 < ((rdOf ByteArray.empty t220 x15_1).size : Int)
                            · rw [if_pos c19] at H
                              have c19b0 : decide (x33_3 < ((rdOf ByteArray.empty t220 x15_1).size : Int)) = true := decide_eq_true c19
                              clear c19
                              by_cases c21 : (bt (rdOf ByteArray.empty t220 x15_1) x33_3) < 48
                              · rw [if_pos c21] at H
                                have c21b0 : decide ((bt (rdOf ByteArray.empty t220 x15_1) x33_3) < 48) = true := decide_eq_true c21
                                clear c21
                                simp only [Option.some.injEq, Prod.mk.injEq] at H
                                obtain ⟨rfl, rfl⟩ := H
                                have p20 : 0 ≤ (x33_3 : Int) := of_decide_eq_true (by first | (with_reducible assumption) | assumption)
                                have q20 : x33_3 < ((rdOf ByteArray.empty t220 x15_1).size : Int) := of_decide_eq_true (by first | (with_reducible assumption) | assumption)
                                have hx20 := bt_at (rdOf ByteArray.empty t220 x15_1) x33_3
                                replace p20 := eq_true p20
                                replace q20 := eq_true q20
                                go_wp2
                                go_ret2
                                exact ⟨_, by first | rfl | (simp [errW_none, errW_some] <;> rfl) | (simp [*, errW_none, errW_some] <;> rfl), by first | exact Kd.R_nil _ _ _ _ _ | exact Kd.N_nil _ _ _ _ _ | exact Kd.V_nil _ _ _ _ _ | exact Kd.Q_nil _ _ _ _ _ | exact Kd.S_nil _ _ _ _ _, by repeat (first | (with_reducible first | exact HB.out | apply below_alloc | apply pw_below_drewN | apply below_drew1) | exact HB.out)⟩
                              · rw [if_neg c21] at H
                                have c21b0 : decide ((bt (rdOf ByteArray.empty t220 x15_1) x33_3) < 48) = false := decide_eq_false c21
                                clear c21
                                by_cases c23 : (bt (rdOf ByteArray.empty t220 x15_1) x33_3) > 57
                                · rw [if_pos c23] at H
                                  have c23b0 : decide (57 < (bt (rdOf ByteArray.empty t220 x15_1) x33_3)) = true := decide_eq_true c23
                                  clear c23
                                  simp only [Option.some.injEq, Prod.mk.injEq] at H
                                  obtain ⟨rfl, rfl⟩ := H
                                  have p20 : 0 ≤ (x33_3 : Int) := of_decide_eq_true (by first | (with_reducible assumption) | assumption)
                                  have q20 : x33_3 < ((rdOf ByteArray.empty t220 x15_1).size : Int) := of_decide_eq_true (by first | (with_reducible assumption) | assumption)
                                  have hx20 := bt_at (rdOf ByteArray.empty t220 x15_1) x33_3
                                  replace p20 := eq_true p20
                                  replace q20 := eq_true q20
                                  have p22 : 0 ≤ (x33_3 : Int) := of_decide_eq_true (by first | (with_reducible assumption) | assumption)
                                  have q22 : x33_3 < ((rdOf ByteArray.empty t220 x15_1).size : Int) := of_decide_eq_true (by first | (with_reducible assumption) | assumption)
                                  have hx22 := bt_at (rdOf ByteArray.empty t220 x15_1) x33_3
                                  replace p22 := eq_true p22
                                  replace q22 := eq_true q22
                                  go_wp2
                                  go_ret2
                                  exact ⟨_, by first | rfl | (simp [errW_none, errW_some] <;> rfl) | (simp [*, errW_none, errW_some] <;> rfl), by first | exact Kd.R_nil _ _ _ _ _ | exact Kd.N_nil _ _ _ _ _ | exact Kd.V_nil _ _ _ _ _ | exact Kd.Q_nil _ _ _ _ _ | exact Kd.S_nil _ _ _ _ _, by repeat (first | (with_reducible first | exact HB.out | apply below_alloc | apply pw_below_drewN | apply below_drew1) | exact HB.out)⟩
                                · rw [if_neg c23] at H
                                  have c23b0 : decide (57 < (bt (rdOf ByteArray.empty t220 x15_1) x33_3)) = false := decide_eq_false c23
                                  clear c23
                                  have H' := Aside0.mk H
                                  clear H
                                  have p20 : 0 ≤ (x33_3 : Int) := of_decide_eq_true (by first | (with_reducible assumption) | assumption)
                                  have q20 : x33_3 < ((rdOf ByteArray.empty t220 x15_1).size : Int) := of_decide_eq_true (by first | (with_reducible assumption) | assumption)
                                  have hx20 := bt_at (rdOf ByteArray.empty t220 x15_1) x33_3
                                  replace p20 := eq_true p20
                                  replace q20 := eq_true q20
                                  have p22 : 0 ≤ (x33_3 : Int) := of_decide_eq_true (by first | (with_reducible assumption) | assumption)
                                  have q22 : x33_3 < ((rdOf ByteArray.empty t220 x15_1).size : Int) := of_decide_eq_true (by first | (with_reducible assumption) | assumption)
                                  have hx22 := bt_at (rdOf ByteArray.empty t220 x15_1) x33_3
                                  replace p22 := eq_true p22
                                  replace q22 := eq_true q22
                                  go_wp2
                                  go_roundg k3
                                  case measure => have := HK1.out; have := HJ10.out; have := HK3.out; omega
                                  case rel => exact ⟨(wrap64 (x33_3 + 1)), (by first | rfl | (simp; done) | (simp [*]; done)), H', ⟨by have := HK1.out; have := HJ10.out; have := HK3.out; omega⟩, ⟨by (with_reducible repeat (first | apply Kd.R_alloc | apply Kd.R_drewN | apply Kd.R_drew)); exact HO_4.out⟩, ⟨by (with_reducible repeat (first | apply Kd.R_alloc | apply Kd.R_drewN | apply Kd.R_drew)); exact HO_13.out⟩, ⟨by repeat (first | (with_reducible first | exact HB.out | apply below_alloc | apply pw_below_drewN | apply below_drew1) | exact HB.out)⟩⟩
                            · rw [if_neg c19] at H
                              exact absurd H (by simp)
                          · rw [if_neg c18] at H
                            exact absurd H (by simp)
                        · rw [if_neg c17] at H
                          have c17b0 : decide (x33_3 < ((rdOf ByteArray.empty t220 x15_1).size : Int)) = false := decide_eq_false c17
                          clear c17
                          have H' := Aside0.mk H
                          clear H
                          go_wp2
                          go_roundg k3
                          case measure => have := HK1.out; have := HJ10.out; have := HK3.out; omega
                          case rel => exact ⟨(wrap64 (x15_1 + 1)), (by first | rfl | (simp; done) | (simp [*]; done)), H', ⟨by have := HK1.out; have := HJ10.out; have := HK3.out; omega⟩, ⟨by (with_reducible repeat (first | apply Kd.R_alloc | apply Kd.R_drewN | apply Kd.R_drew)); exact HO_4.out⟩, ⟨by (with_reducible repeat (first | apply Kd.R_alloc | apply Kd.R_drewN | apply Kd.R_drew)); exact HO_13.out⟩, ⟨by repeat (first | (with_reducible first | exact HB.out | apply below_alloc | apply pw_below_drewN | apply below_drew1) | exact HB.out)⟩⟩
            · rw [if_neg c10] at H
              exact absurd H (by simp)
          · rw [if_neg c9] at H
            exact absurd H (by simp)
        · rw [if_neg c8] at H
          have c8b0 : decide (x15_1 < (t220.length : Int)) = false := decide_eq_false c8
          clear c8
          by_cases c24 : 0 < (t220.length : Int)
          · rw [if_pos c24] at H
            have c24b0 : decide (0 < (t220.length : Int)) = true := decide_eq_true c24
            have c24b1 : decide (0 < t220.length) = true := decide_eq_true (by omega)
            clear c24
            by_cases c25 : ((rdOf ByteArray.empty t220 0).size : Int) > 1
            · rw [if_pos c25] at H
              have c25b0 : decide (1 < ((rdOf ByteArray.empty t220 0).size : Int)) = true := decide_eq_true c25
              have c25b1 : decide (1 < (rdOf ByteArray.empty t220 0).size) = true := decide_eq_true (by omega)
              clear c25
              simp only [Option.some.injEq, Prod.mk.injEq] at H
              obtain ⟨rfl, rfl⟩ := H
              have p223 : 0 ≤ (0 : Int) := (by omega)
              have q223 : 0 < (t220.length : Int) := of_decide_eq_true (by first | (with_reducible assumption) | assumption)
              obtain ⟨ad223, e223, hx223_0⟩ := Kd.at_string (Kd.R_reads' HO_4.out).2.2 0 p223 q223
              cases e223
              have qi223 : (0 < t220.length) = True := eq_true (by omega)
              (try rw [show ((0 : Int)).toNat = 0 from rfl] at hx223_0)
              (try rw [Addr.add_zero'] at hx223_0)
              replace p223 := eq_true p223
              replace q223 := eq_true q223
              go_wp2
              go_ret2
              exact ⟨_, by first | rfl | (simp [errW_none, errW_some] <;> rfl) | (simp [*, errW_none, errW_some] <;> rfl), by first | exact Kd.R_nil _ _ _ _ _ | exact Kd.N_nil _ _ _ _ _ | exact Kd.V_nil _ _ _ _ _ | exact Kd.Q_nil _ _ _ _ _ | exact Kd.S_nil _ _ _ _ _, by repeat (first | (with_reducible first | exact HB.out | apply below_alloc | apply pw_below_drewN | apply below_drew1) | exact HB.out)⟩
            · rw [if_neg c25] at H
              have c25b0 : decide (1 < ((rdOf ByteArray.empty t220 0).size : Int)) = false := decide_eq_false c25
              have c25b1 : decide (1 < (rdOf ByteArray.empty t220 0).size) = false := decide_eq_false (by omega)
              clear c25
              by_cases c26 : (Op.bytesLess ([50] : List UInt8) ((rdOf ByteArray.empty t220 0).toList)) = true
              · rw [if_pos c26] at H
                have c26b0 : (Op.bytesLess ([50] : List UInt8) ((rdOf ByteArray.empty t220 0).toList)) = true := c26
                clear c26
                simp only [Option.some.injEq, Prod.mk.injEq] at H
                obtain ⟨rfl, rfl⟩ := H
                have p223 : 0 ≤ (0 : Int) := (by omega)
                have q223 : 0 < (t220.length : Int) := of_decide_eq_true (by first | (with_reducible assumption) | assumption)
                obtain ⟨ad223, e223, hx223_0⟩ := Kd.at_string (Kd.R_reads' HO_4.out).2.2 0 p223 q223
                cases e223
                have qi223 : (0 < t220.length) = True := eq_true (by omega)
                (try rw [show ((0 : Int)).toNat = 0 from rfl] at hx223_0)
                (try rw [Addr.add_zero'] at hx223_0)
                replace p223 := eq_true p223
                replace q223 := eq_true q223
                have p224 : 0 ≤ (0 : Int) := (by omega)
                have q224 : 0 < (t220.length : Int) := of_decide_eq_true (by first | (with_reducible assumption) | assumption)
                obtain ⟨ad224, e224, hx224_0⟩ := Kd.at_string (Kd.R_reads' HO_4.out).2.2 0 p224 q224
                obtain rfl : ad223 = ad224 := (by injection e224)
                have qi224 : (0 < t220.length) = True := eq_true (by omega)
                (try rw [show ((0 : Int)).toNat = 0 from rfl] at hx224_0)
                (try rw [Addr.add_zero'] at hx224_0)
                replace p224 := eq_true p224
                replace q224 := eq_true q224
                go_wp2
                go_ret2
                exact ⟨_, by first | rfl | (simp [errW_none, errW_some] <;> rfl) | (simp [*, errW_none, errW_some] <;> rfl), by first | exact Kd.R_nil _ _ _ _ _ | exact Kd.N_nil _ _ _ _ _ | exact Kd.V_nil _ _ _ _ _ | exact Kd.Q_nil _ _ _ _ _ | exact Kd.S_nil _ _ _ _ _, by repeat (first | (with_reducible first | exact HB.out | apply below_alloc | apply pw_below_drewN | apply below_drew1) | exact HB.out)⟩
              · rw [if_neg c26] at H
                have c26b0 : (Op.bytesLess ([50] : List UInt8) ((rdOf ByteArray.empty t220 0).toList)) = false := by simpa using c26
                clear c26
                by_cases c27 : (Op.bytesLess ((rdOf ByteArray.empty t220 0).toList) ([50] : List UInt8)) = true
                · rw [if_pos c27] at H
                  have c27b0 : (Op.bytesLess ((rdOf ByteArray.empty t220 0).toList) ([50] : List UInt8)) = true := c27
                  clear c27
                  by_cases c28 : 1 < (t220.length : Int)
                  · rw [if_pos c28] at H
                    have c28b0 : decide (1 < (t220.length : Int)) = true := decide_eq_true c28
                    have c28b1 : decide (1 < t220.length) = true := decide_eq_true (by omega)
                    clear c28
                    by_cases c29 : ((rdOf ByteArray.empty t220 1).size : Int) > 2
                    · rw [if_pos c29] at H
                      have c29b0 : decide (2 < ((rdOf ByteArray.empty t220 1).size : Int)) = true := decide_eq_true c29
                      have c29b1 : decide (2 < (rdOf ByteArray.empty t220 1).size) = true := decide_eq_true (by omega)
                      clear c29
                      simp only [Option.some.injEq, Prod.mk.injEq] at H
                      obtain ⟨rfl, rfl⟩ := H
                      have p223 : 0 ≤ (0 : Int) := (by omega)
                      have q223 : 0 < (t220.length : Int) := of_decide_eq_true (by first | (with_reducible assumption) | assumption)
                      obtain ⟨ad223, e223, hx223_0⟩ := Kd.at_string (Kd.R_reads' HO_4.out).2.2 0 p223 q223
                      cases e223
                      have qi223 : (0 < t220.length) = True := eq_true (by omega)
                      (try rw [show ((0 : Int)).toNat = 0 from rfl] at hx223_0)
                      (try rw [Addr.add_zero'] at hx223_0)
                      replace p223 := eq_true p223
                      replace q223 := eq_true q223
                      have p224 : 0 ≤ (0 : Int) := (by omega)
                      have q224 : 0 < (t220.length : Int) := of_decide_eq_true (by first | (with_reducible assumption) | assumption)
                      obtain ⟨ad224, e224, hx224_0⟩ := Kd.at_string (Kd.R_reads' HO_4.out).2.2 0 p224 q224
                      obtain rfl : ad223 = ad224 := (by injection e224)
                      have qi224 : (0 < t220.length) = True := eq_true (by omega)
                      (try rw [show ((0 : Int)).toNat = 0 from rfl] at hx224_0)
                      (try rw [Addr.add_zero'] at hx224_0)
                      replace p224 := eq_true p224
                      replace q224 := eq_true q224
                      have p225 : 0 ≤ (0 : Int) := (by omega)
                      have q225 : 0 < (t220.length : Int) := of_decide_eq_true (by first | (with_reducible assumption) | assumption)
                      obtain ⟨ad225, e225, hx225_0⟩ := Kd.at_string (Kd.R_reads' HO_4.out).2.2 0 p225 q225
                      obtain rfl : ad223 = ad225 := (by injection e225)
                      have qi225 : (0 < t220.length) = True := eq_true (by omega)
                      (try rw [show ((0 : Int)).toNat = 0 from rfl] at hx225_0)
                      (try rw [Addr.add_zero'] at hx225_0)
                      replace p225 := eq_true p225
                      replace q225 := eq_true q225
                      have p226 : 0 ≤ (1 : Int) := (by omega)
                      have q226 : 1 < (t220.length : Int) := of_decide_eq_true (by first | (with_reducible assumption) | assumption)
                      obtain ⟨ad226, e226, hx226_0⟩ := Kd.at_string (Kd.R_reads' HO_4.out).2.2 1 p226 q226
                      obtain rfl : ad223 = ad226 := (by injection e226)
                      (try simp only [show (1 : Int).toNat = 1 from rfl, Nat.reduceMul, Nat.reduceEqDiff, Go.Addr.add, ↓reduceIte] at hx226_0)
                      have qi226 : (1 < t220.length) = True := eq_true (by omega)
                      (try rw [show ((1 : Int)).toNat = 1 from rfl] at hx226_0)
                      replace p226 := eq_true p226
                      replace q226 := eq_true q226
                      go_wp2
                      go_ret2
                      exact ⟨_, by first | rfl | (simp [errW_none, errW_some] <;> rfl) | (simp [*, errW_none, errW_some] <;> rfl), by first | exact Kd.R_nil _ _ _ _ _ | exact Kd.N_nil _ _ _ _ _ | exact Kd.V_nil _ _ _ _ _ | exact Kd.Q_nil _ _ _ _ _ | exact Kd.S_nil _ _ _ _ _, by repeat (first | (with_reducible first | exact HB.out | apply below_alloc | apply pw_below_drewN | apply below_drew1) | exact HB.out)⟩
                    · rw [if_neg c29] at H
                      have c29b0 : decide (2 < ((rdOf ByteArray.empty t220 1).size : Int)) = false := decide_eq_false c29
                      have c29b1 : decide (2 < (rdOf ByteArray.empty t220 1).size) = false := decide_eq_false (by omega)
                      clear c29
                      by_cases c30 : ((rdOf ByteArray.empty t220 1).size : Int) = 2
                      · rw [if_pos c30] at H
                        have c30b0 : (((rdOf ByteArray.empty t220 1).size : Int) == 2) = true := beq_iff_eq.mpr c30
                        have c30b1 : (((rdOf ByteArray.empty t220 1).size : Int) != 2) = false := bne_eq_false_iff_eq.mpr c30
                        clear c30
                        by_cases c31 : (Op.bytesLess ([51, 57] : List UInt8) ((rdOf ByteArray.empty t220 1).toList)) = true
                        · rw [if_pos c31] at H
                          have c31b0 : (Op.bytesLess ([51, 57] : List UInt8) ((rdOf ByteArray.empty t220 1).toList)) = true := c31
                          clear c31
                          simp only [Option.some.injEq, Prod.mk.injEq] at H
                          obtain ⟨rfl, rfl⟩ := H
                          have p223 : 0 ≤ (0 : Int) := (by omega)
                          have q223 : 0 < (t220.length : Int) := of_decide_eq_true (by first | (with_reducible assumption) | assumption)
                          obtain ⟨ad223, e223, hx223_0⟩ := Kd.at_string (Kd.R_reads' HO_4.out).2.2 0 p223 q223
                          cases e223
                          have qi223 : (0 < t220.length) = True := eq_true (by omega)
                          (try rw [show ((0 : Int)).toNat = 0 from rfl] at hx223_0)
                          (try rw [Addr.add_zero'] at hx223_0)
                          replace p223 := eq_true p223
                          replace q223 := eq_true q223
                          have p224 : 0 ≤ (0 : Int) := (by omega)
                          have q224 : 0 < (t220.length : Int) := of_decide_eq_true (by first | (with_reducible assumption) | assumption)
                          obtain ⟨ad224, e224, hx224_0⟩ := Kd.at_string (Kd.R_reads' HO_4.out).2.2 0 p224 q224
                          obtain rfl : ad223 = ad224 := (by injection e224)
                          have qi224 : (0 < t220.length) = True := eq_true (by omega)
                          (try rw [show ((0 : Int)).toNat = 0 from rfl] at hx224_0)
                          (try rw [Addr.add_zero'] at hx224_0)
                          replace p224 := eq_true p224
                          replace q224 := eq_true q224
                          have p225 : 0 ≤ (0 : Int) := (by omega)
                          have q225 : 0 < (t220.length : Int) := of_decide_eq_true (by first | (with_reducible assumption) | assumption)
                          obtain ⟨ad225, e225, hx225_0⟩ := Kd.at_string (Kd.R_reads' HO_4.out).2.2 0 p225 q225
                          obtain rfl : ad223 = ad225 := (by injection e225)
                          have qi225 : (0 < t220.length) = True := eq_true (by omega)
                          (try rw [show ((0 : Int)).toNat = 0 from rfl] at hx225_0)
                          (try rw [Addr.add_zero'] at hx225_0)
                          replace p225 := eq_true p225
                          replace q225 := eq_true q225
                          have p226 : 0 ≤ (1 : Int) := (by omega)
                          have q226 : 1 < (t220.length : Int) := of_decide_eq_true (by first | (with_reducible assumption) | assumption)
                          obtain ⟨ad226, e226, hx226_0⟩ := Kd.at_string (Kd.R_reads' HO_4.out).2.2 1 p226 q226
                          obtain rfl : ad223 = ad226 := (by injection e226)
                          (try simp only [show (1 : Int).toNat = 1 from rfl, Nat.reduceMul, Nat.reduceEqDiff, Go.Addr.add, ↓reduceIte] at hx226_0)
                          have qi226 : (1 < t220.length) = True := eq_true (by omega)
                          (try rw [show ((1 : Int)).toNat = 1 from rfl] at hx226_0)
                          replace p226 := eq_true p226
                          replace q226 := eq_true q226
                          have p227 : 0 ≤ (1 : Int) := (by omega)
                          have q227 : 1 < (t220.length : Int) := of_decide_eq_true (by first | (with_reducible assumption) | assumption)
                          obtain ⟨ad227, e227, hx227_0⟩ := Kd.at_string (Kd.R_reads' HO_4.out).2.2 1 p227 q227
                          obtain rfl : ad223 = ad227 := (by injection e227)
                          (try simp only [show (1 : Int).toNat = 1 from rfl, Nat.reduceMul, Nat.reduceEqDiff, Go.Addr.add, ↓reduceIte] at hx227_0)
                          have qi227 : (1 < t220.length) = True := eq_true (by omega)
                          (try rw [show ((1 : Int)).toNat = 1 from rfl] at hx227_0)
                          replace p227 := eq_true p227
                          replace q227 := eq_true q227
                          have p228 : 0 ≤ (1 : Int) := (by omega)
                          have q228 : 1 < (t220.length : Int) := of_decide_eq_true (by first | (with_reducible assumption) | assumption)
                          obtain ⟨ad228, e228, hx228_0⟩ := Kd.at_string (Kd.R_reads' HO_4.out).2.2 1 p228 q228
                          obtain rfl : ad223 = ad228 := (by injection e228)
                          (try simp only [show (1 : Int).toNat = 1 from rfl, Nat.reduceMul, Nat.reduceEqDiff, Go.Addr.add, ↓reduceIte] at hx228_0)
                          have qi228 : (1 < t220.length) = True := eq_true (by omega)
                          (try rw [show ((1 : Int)).toNat = 1 from rfl] at hx228_0)
                          replace p228 := eq_true p228
                          replace q228 := eq_true q228
                          go_wp2
                          go_ret2
                          exact ⟨_, by first | rfl | (simp [errW_none, errW_some] <;> rfl) | (simp [*, errW_none, errW_some] <;> rfl), by first | exact Kd.R_nil _ _ _ _ _ | exact Kd.N_nil _ _ _ _ _ | exact Kd.V_nil _ _ _ _ _ | exact Kd.Q_nil _ _ _ _ _ | exact Kd.S_nil _ _ _ _ _, by repeat (first | (with_reducible first | exact HB.out | apply below_alloc | apply pw_below_drewN | apply below_drew1) | exact HB.out)⟩
                        · rw [if_neg c31] at H
                          have c31b0 : (Op.bytesLess ([51, 57] : List UInt8) ((rdOf ByteArray.empty t220 1).toList)) = false := by simpa using c31
                          clear c31
                          simp only [Option.some.injEq, Prod.mk.injEq] at H
                          obtain ⟨rfl, rfl⟩ := H
                          have p223 : 0 ≤ (0 : Int) := (by omega)
                          have q223 : 0 < (t220.length : Int) := of_decide_eq_true (by first | (with_reducible assumption) | assumption)
                          obtain ⟨ad223, e223, hx223_0⟩ := Kd.at_string (Kd.R_reads' HO_4.out).2.2 0 p223 q223
                          cases e223
                          have qi223 : (0 < t220.length) = True := eq_true (by omega)
                          (try rw [show ((0 : Int)).toNat = 0 from rfl] at hx223_0)
                          (try rw [Addr.add_zero'] at hx223_0)
                          replace p223 := eq_true p223
                          replace q223 := eq_true q223
                          have p224 : 0 ≤ (0 : Int) := (by omega)
                          have q224 : 0 < (t220.length : Int) := of_decide_eq_true (by first | (with_reducible assumption) | assumption)
                          obtain ⟨ad224, e224, hx224_0⟩ := Kd.at_string (Kd.R_reads' HO_4.out).2.2 0 p224 q224
                          obtain rfl : ad223 = ad224 := (by injection e224)
                          have qi224 : (0 < t220.length) = True := eq_true (by omega)
                          (try rw [show ((0 : Int)).toNat = 0 from rfl] at hx224_0)
                          (try rw [Addr.add_zero'] at hx224_0)
                          replace p224 := eq_true p224
                          replace q224 := eq_true q224
                          have p225 : 0 ≤ (0 : Int) := (by omega)
                          have q225 : 0 < (t220.length : Int) := of_decide_eq_true (by first | (with_reducible assumption) | assumption)
                          obtain ⟨ad225, e225, hx225_0⟩ := Kd.at_string (Kd.R_reads' HO_4.out).2.2 0 p225 q225
                          obtain rfl : ad223 = ad225 := (by injection e225)
                          have qi225 : (0 < t220.length) = True := eq_true (by omega)
                          (try rw [show ((0 : Int)).toNat = 0 from rfl] at hx225_0)
                          (try rw [Addr.add_zero'] at hx225_0)
                          replace p225 := eq_true p225
                          replace q225 := eq_true q225
                          have p226 : 0 ≤ (1 : Int) := (by omega)
                          have q226 : 1 < (t220.length : Int) := of_decide_eq_true (by first | (with_reducible assumption) | assumption)
                          obtain ⟨ad226, e226, hx226_0⟩ := Kd.at_string (Kd.R_reads' HO_4.out).2.2 1 p226 q226
                          obtain rfl : ad223 = ad226 := (by injection e226)
                          (try simp only [show (1 : Int).toNat = 1 from rfl, Nat.reduceMul, Nat.reduceEqDiff, Go.Addr.add, ↓reduceIte] at hx226_0)
                          have qi226 : (1 < t220.length) = True := eq_true (by omega)
                          (try rw [show ((1 : Int)).toNat = 1 from rfl] at hx226_0)
                          replace p226 := eq_true p226
                          replace q226 := eq_true q226
                          have p227 : 0 ≤ (1 : Int) := (by omega)
                          have q227 : 1 < (t220.length : Int) := of_decide_eq_true (by first | (with_reducible assumption) | assumption)
                          obtain ⟨ad227, e227, hx227_0⟩ := Kd.at_string (Kd.R_reads' HO_4.out).2.2 1 p227 q227
                          obtain rfl : ad223 = ad227 := (by injection e227)
                          (try simp only [show (1 : Int).toNat = 1 from rfl, Nat.reduceMul, Nat.reduceEqDiff, Go.Addr.add, ↓reduceIte] at hx227_0)
                          have qi227 : (1 < t220.length) = True := eq_true (by omega)
                          (try rw [show ((1 : Int)).toNat = 1 from rfl] at hx227_0)
                          replace p227 := eq_true p227
                          replace q227 := eq_true q227
                          have p228 : 0 ≤ (1 : Int) := (by omega)
                          have q228 : 1 < (t220.length : Int) := of_decide_eq_true (by first | (with_reducible assumption) | assumption)
                          obtain ⟨ad228, e228, hx228_0⟩ := Kd.at_string (Kd.R_reads' HO_4.out).2.2 1 p228 q228
                          obtain rfl : ad223 = ad228 := (by injection e228)
                          (try simp only [show (1 : Int).toNat = 1 from rfl, Nat.reduceMul, Nat.reduceEqDiff, Go.Addr.add, ↓reduceIte] at hx228_0)
                          have qi228 : (1 < t220.length) = True := eq_true (by omega)
                          (try rw [show ((1 : Int)).toNat = 1 from rfl] at hx228_0)
                          replace p228 := eq_true p228
                          replace q228 := eq_true q228
                          go_wp2
                          go_ret2
                          exact ⟨_, by first | rfl | (simp [errW_none, errW_some] <;> rfl) | (simp [*, errW_none, errW_some] <;> rfl), by (with_reducible repeat (first | apply Kd.R_alloc | apply Kd.R_drewN | apply Kd.R_drew)); exact HO_4.out, by repeat (first | (with_reducible first | exact HB.out | apply below_alloc | apply pw_below_drewN | apply below_drew1) | exact HB.out)⟩
                      · rw [if_neg c30] at H
                        have c30b0 : (((rdOf ByteArray.empty t220 1).size : Int) == 2) = false := beq_eq_false_iff_ne.mpr c30
                        have c30b1 : (((rdOf ByteArray.empty t220 1).size : Int) != 2) = true := bne_iff_ne.mpr c30
                        simp only [Option.some.injEq, Prod.mk.injEq] at H
                        obtain ⟨rfl, rfl⟩ := H
                        have p223 : 0 ≤ (0 : Int) := (by omega)
                        have q223 : 0 < (t220.length : Int) := of_decide_eq_true (by first | (with_reducible assumption) | assumption)
                        obtain ⟨ad223, e223, hx223_0⟩ := Kd.at_string (Kd.R_reads' HO_4.out).2.2 0 p223 q223
                        cases e223
                        have qi223 : (0 < t220.length) = True := eq_true (by omega)
                        (try rw [show ((0 : Int)).toNat = 0 from rfl] at hx223_0)
                        (try rw [Addr.add_zero'] at hx223_0)
                        replace p223 := eq_true p223
                        replace q223 := eq_true q223
                        have p224 : 0 ≤ (0 : Int) := (by omega)
                        have q224 : 0 < (t220.length : Int) := of_decide_eq_true (by first | (with_reducible assumption) | assumption)
                        obtain ⟨ad224, e224, hx224_0⟩ := Kd.at_string (Kd.R_reads' HO_4.out).2.2 0 p224 q224
                        obtain rfl : ad223 = ad224 := (by injection e224)
                        have qi224 : (0 < t220.length) = True := eq_true (by omega)
                        (try rw [show ((0 : Int)).toNat = 0 from rfl] at hx224_0)
                        (try rw [Addr.add_zero'] at hx224_0)
                        replace p224 := eq_true p224
                        replace q224 := eq_true q224
                        have p225 : 0 ≤ (0 : Int) := (by omega)
                        have q225 : 0 < (t220.length : Int) := of_decide_eq_true (by first | (with_reducible assumption) | assumption)
                        obtain ⟨ad225, e225, hx225_0⟩ := Kd.at_string (Kd.R_reads' HO_4.out).2.2 0 p225 q225
                        obtain rfl : ad223 = ad225 := (by injection e225)
                        have qi225 : (0 < t220.length) = True := eq_true (by omega)
                        (try rw [show ((0 : Int)).toNat = 0 from rfl] at hx225_0)
                        (try rw [Addr.add_zero'] at hx225_0)
                        replace p225 := eq_true p225
                        replace q225 := eq_true q225
                        have p226 : 0 ≤ (1 : Int) := (by omega)
                        have q226 : 1 < (t220.length : Int) := of_decide_eq_true (by first | (with_reducible assumption) | assumption)
                        obtain ⟨ad226, e226, hx226_0⟩ := Kd.at_string (Kd.R_reads' HO_4.out).2.2 1 p226 q226
                        obtain rfl : ad223 = ad226 := (by injection e226)
                        (try simp only [show (1 : Int).toNat = 1 from rfl, Nat.reduceMul, Nat.reduceEqDiff, Go.Addr.add, ↓reduceIte] at hx226_0)
                        have qi226 : (1 < t220.length) = True := eq_true (by omega)
                        (try rw [show ((1 : Int)).toNat = 1 from rfl] at hx226_0)
                        replace p226 := eq_true p226
                        replace q226 := eq_true q226
                        have p227 : 0 ≤ (1 : Int) := (by omega)
                        have q227 : 1 < (t220.length : Int) := of_decide_eq_true (by first | (with_reducible assumption) | assumption)
                        obtain ⟨ad227, e227, hx227_0⟩ := Kd.at_string (Kd.R_reads' HO_4.out).2.2 1 p227 q227
                        obtain rfl : ad223 = ad227 := (by injection e227)
                        (try simp only [show (1 : Int).toNat = 1 from rfl, Nat.reduceMul, Nat.reduceEqDiff, Go.Addr.add, ↓reduceIte] at hx227_0)
                        have qi227 : (1 < t220.length) = True := eq_true (by omega)
                        (try rw [show ((1 : Int)).toNat = 1 from rfl] at hx227_0)
                        replace p227 := eq_true p227
                        replace q227 := eq_true q227
                        go_wp2
                        go_ret2
                        exact ⟨_, by first | rfl | (simp [errW_none, errW_some] <;> rfl) | (simp [*, errW_none, errW_some] <;> rfl), by (with_reducible repeat (first | apply Kd.R_alloc | apply Kd.R_drewN | apply Kd.R_drew)); exact HO_4.out, by repeat (first | (with_reducible first | exact HB.out | apply below_alloc | apply pw_below_drewN | apply below_drew1) | exact HB.out)⟩
                  · rw [if_neg c28] at H
                    exact absurd H (by simp)
                · rw [if_neg c27] at H
                  have c27b0 : (Op.bytesLess ((rdOf ByteArray.empty t220 0).toList) ([50] : List UInt8)) = false := by simpa using c27
                  clear c27
                  simp only [Option.some.injEq, Prod.mk.injEq] at H
                  obtain ⟨rfl, rfl⟩ := H
                  have p223 : 0 ≤ (0 : Int) := (by omega)
                  have q223 : 0 < (t220.length : Int) := of_decide_eq_true (by first | (with_reducible assumption) | assumption)
                  obtain ⟨ad223, e223, hx223_0⟩ := Kd.at_string (Kd.R_reads' HO_4.out).2.2 0 p223 q223
                  cases e223
                  have qi223 : (0 < t220.length) = True := eq_true (by omega)
                  (try rw [show ((0 : Int)).toNat = 0 from rfl] at hx223_0)
                  (try rw [Addr.add_zero'] at hx223_0)
                  replace p223 := eq_true p223
                  replace q223 := eq_true q223
                  have p224 : 0 ≤ (0 : Int) := (by omega)
                  have q224 : 0 < (t220.length : Int) := of_decide_eq_true (by first | (with_reducible assumption) | assumption)
                  obtain ⟨ad224, e224, hx224_0⟩ := Kd.at_string (Kd.R_reads' HO_4.out).2.2 0 p224 q224
                  obtain rfl : ad223 = ad224 := (by injection e224)
                  have qi224 : (0 < t220.length) = True := eq_true (by omega)
                  (try rw [show ((0 : Int)).toNat = 0 from rfl] at hx224_0)
                  (try rw [Addr.add_zero'] at hx224_0)
                  replace p224 := eq_true p224
                  replace q224 := eq_true q224
                  have p225 : 0 ≤ (0 : Int) := (by omega)
                  have q225 : 0 < (t220.length : Int) := of_decide_eq_true (by first | (with_reducible assumption) | assumption)
                  obtain ⟨ad225, e225, hx225_0⟩ := Kd.at_string (Kd.R_reads' HO_4.out).2.2 0 p225 q225
                  obtain rfl : ad223 = ad225 := (by injection e225)
                  have qi225 : (0 < t220.length) = True := eq_true (by omega)
                  (try rw [show ((0 : Int)).toNat = 0 from rfl] at hx225_0)
                  (try rw [Addr.add_zero'] at hx225_0)
                  replace p225 := eq_true p225
                  replace q225 := eq_true q225
                  go_wp2
                  go_ret2
                  exact ⟨_, by first | rfl | (simp [errW_none, errW_some] <;> rfl) | (simp [*, errW_none, errW_some] <;> rfl), by (with_reducible repeat (first | apply Kd.R_alloc | apply Kd.R_drewN | apply Kd.R_drew)); exact HO_4.out, by repeat (first | (with_reducible first | exact HB.out | apply below_alloc | apply pw_below_drewN | apply below_drew1) | exact HB.out)⟩
          · rw [if_neg c24] at H
            exact absurd H (by simp)

-- NOT PRINTED: function 11 (impl_OIDText)

-- NOT PRINTED: function 4 (laws_FnIDText)

end Go.Proofs.YtiopgkdldkkonaaDoor.Pn

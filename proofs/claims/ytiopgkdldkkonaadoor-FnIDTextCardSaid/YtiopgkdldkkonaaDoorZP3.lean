/-
  PRINTED by print.py out of the translation (function bodies, their contracts), mended by hand where it did not build. Not trusted: Lean checks it.
-/
import Derived.Test.YtiopgkdldkkonaaDoorZP0
import Derived.Test.YtiopgkdldkkonaaDoorZP1
namespace Go.Proofs.YtiopgkdldkkonaaDoor.Pn
open Go.RowKit Go.Proofs.YtiopgkdldkkonaaDoorW.PrintWords Go.Proofs.YtiopgkdldkkonaaDoorW.PrintLast Go.Proofs.YtiopgkdldkkonaaDoorW.PrintMore
attribute [local go_sem] max2_int min2_int max_two min_two max_three min_three max_four min_four   -- for this text's walks alone
set_option linter.unusedVariables false
set_option linter.unusedSimpArgs false

/-! ### smallbig_nat_rsh: function 82 -/
def smallbig_nat_rsh.l0 : Nat → List Int → Int → List Int → Int → Int → Option (List Int)
  | 0, _, _, _, _, _ => none
  | k + 1, x0, x6, x7, x26, x27 => if x27 < x26 then (if 0 ≤ x27 then (if x27 < (x0.length : Int) then (if (wrap64 (x27 + 1)) < (x0.length : Int) then (if 0 ≤ (wrap64 (x27 + 1)) then (if 0 ≤ x6 then (if x27 < (x7.length : Int) then (smallbig_nat_rsh.l0 k x0 x6 (x7.set (x27 : Int).toNat ((shr .u64 (Go.bits .or .u64 (IntKind.u64.wrap (rd x0 x27)) (IntKind.u64.wrap ((IntKind.u64.wrap (rd x0 (wrap64 (x27 + 1)))) * 4294967296))) x6) % 4294967296)) x26 (wrap64 (x27 + 1))) else (none)) else (none)) else (none)) else (if 0 ≤ x6 then (if x27 < (x7.length : Int) then (smallbig_nat_rsh.l0 k x0 x6 (x7.set (x27 : Int).toNat ((shr .u64 (IntKind.u64.wrap (rd x0 x27)) x6) % 4294967296)) x26 (wrap64 (x27 + 1))) else (none)) else (none))) else (none)) else (none)) else ((smallbig_nat_norm.f k x7).bind fun t158 => (some t158))
def smallbig_nat_rsh.f (k : Nat) (l0 : List Int) (a1 : Int) : Option (List Int) := if (IntKind.u64.wrap (Int.tdiv a1 32)) ≥ (IntKind.u64.wrap ((l0.length : Int))) then (some ([] : List Int)) else (if 0 ≤ (IntKind.u64.wrap (Int.tdiv a1 32)) then (if (IntKind.u64.wrap (Int.tdiv a1 32)) ≤ (l0.length : Int) then (if 0 ≤ ((l0.drop ((IntKind.u64.wrap (Int.tdiv a1 32)) : Int).toNat).length : Int) then (if (((l0.drop ((IntKind.u64.wrap (Int.tdiv a1 32)) : Int).toNat).length : Int) : Int).toNat ≤ 70368744177664 then (smallbig_nat_rsh.l0 k (l0.drop ((IntKind.u64.wrap (Int.tdiv a1 32)) : Int).toNat) (Int.tmod a1 32) (List.replicate (((l0.drop ((IntKind.u64.wrap (Int.tdiv a1 32)) : Int).toNat).length : Int) : Int).toNat 0) ((l0.drop ((IntKind.u64.wrap (Int.tdiv a1 32)) : Int).toNat).length : Int) 0) else (none)) else (none)) else (none)) else (none))
theorem smallbig_nat_rsh.mono_l : ∀ k, (∀ y0 y1 y2 y3 y4, LeO (smallbig_nat_rsh.l0 k y0 y1 y2 y3 y4) (smallbig_nat_rsh.l0 (k + 1) y0 y1 y2 y3 y4))
  | 0 => fun _ _ _ _ _ r h => by simp [smallbig_nat_rsh.l0] at h
  | k + 1 => by
    have ih0 := smallbig_nat_rsh.mono_l k
    · intro y0 y1 y2 y3 y4
      unfold smallbig_nat_rsh.l0
      repeat' first
      | (with_reducible exact ih0 _ _ _ _ _)
      | (with_reducible exact smallbig_nat_norm.mono _ _)
      | (with_reducible exact LeO.refl _)
      | (with_reducible exact LeO.none _)
      | (with_reducible refine LeO.ite ?_ ?_)
      | (with_reducible refine LeO.bind ?_ (fun _ => ?_))
      | exact ih0 _ _ _ _ _
      | exact smallbig_nat_norm.mono _ _
      | exact LeO.none _
      | refine LeO.ite ?_ ?_
      | refine LeO.bind ?_ (fun _ => ?_)
theorem smallbig_nat_rsh.mono : ∀ a0 a1 k, LeO (smallbig_nat_rsh.f k a0 a1) (smallbig_nat_rsh.f (k + 1) a0 a1) := by
  intro a0 a1 k
  have ih0 := smallbig_nat_rsh.mono_l k
  unfold smallbig_nat_rsh.f
  repeat' first
      | (with_reducible exact ih0 _ _ _ _ _)
      | (with_reducible exact smallbig_nat_norm.mono _ _)
      | (with_reducible exact LeO.refl _)
      | (with_reducible exact LeO.none _)
      | (with_reducible refine LeO.ite ?_ ?_)
      | (with_reducible refine LeO.bind ?_ (fun _ => ?_))
      | exact ih0 _ _ _ _ _
      | exact smallbig_nat_norm.mono _ _
      | exact LeO.none _
      | refine LeO.ite ?_ ?_
      | refine LeO.bind ?_ (fun _ => ?_)
set_option maxHeartbeats 8000000 in
set_option maxRecDepth 100000 in
theorem smallbig_nat_rsh.calls (k : Nat) (A0 : Option Addr) (c0 : Nat) (l0 : List Int) (a1 : Int) (r : List Int) (w : World) (hr0 : Kd.C (Kd.int .u32) w A0 l0.length l0) (hc0 : l0.length ≤ c0) (h : smallbig_nat_rsh.f k l0 a1 = some r) :
    Calls Tryd.prog 82 #[.slice A0 l0.length c0, .int .u64 a1] w fun e w' => ∃ v0_ : Value, e = .returned (v0_) ∧ Kd.V (Kd.int .u32) 84 w' w.heap.size (fun k_ => (w.heap.size ≤ k_)) v0_ r ∧ Below w.heap.size w w' := by
  have HR0 := Aside0.mk hr0
  have HC0 := Aside0.mk hc0
  clear hr0 hc0
  have HB := Aside0.mk (Below.refl w.heap.size w)
  have H : (if (IntKind.u64.wrap (Int.tdiv a1 32)) ≥ (IntKind.u64.wrap ((l0.length : Int))) then (some ([] : List Int)) else (if 0 ≤ (IntKind.u64.wrap (Int.tdiv a1 32)) then (if (IntKind.u64.wrap (Int.tdiv a1 32)) ≤ (l0.length : Int) then (if 0 ≤ ((l0.drop ((IntKind.u64.wrap (Int.tdiv a1 32)) : Int).toNat).length : Int) then (if (((l0.drop ((IntKind.u64.wrap (Int.tdiv a1 32)) : Int).toNat).length : Int) : Int).toNat ≤ 70368744177664 then (smallbig_nat_rsh.l0 k (l0.drop ((IntKind.u64.wrap (Int.tdiv a1 32)) : Int).toNat) (Int.tmod a1 32) (List.replicate (((l0.drop ((IntKind.u64.wrap (Int.tdiv a1 32)) : Int).toNat).length : Int) : Int).toNat 0) ((l0.drop ((IntKind.u64.wrap (Int.tdiv a1 32)) : Int).toNat).length : Int) 0) else (none)) else (none)) else (none)) else (none))) = some r := h
  clear h
  by_cases c3 : (IntKind.u64.wrap (Int.tdiv a1 32)) ≥ (IntKind.u64.wrap ((l0.length : Int)))
  · rw [if_pos c3] at H
    have c3b0 : decide ((IntKind.u64.wrap ((l0.length : Int))) ≤ (IntKind.u64.wrap (Int.tdiv a1 32))) = true := decide_eq_true c3
    clear c3
    obtain rfl := Option.some.inj H
    go_enter Tryd.func82, Tryd.ntmps82
    go_wp2
    go_ret
    exact ⟨.slice none 0 0, rfl, Kd.R_V (Kd.R_nil (Kd.int .u32) 84 w 0 _), HB.out⟩
  · rw [if_neg c3] at H
    have c3b0 : decide ((IntKind.u64.wrap ((l0.length : Int))) ≤ (IntKind.u64.wrap (Int.tdiv a1 32))) = false := decide_eq_false c3
    clear c3
    obtain ⟨ji4, hji4⟩ : ∃ j_ : Int, (IntKind.u64.wrap (Int.tdiv a1 32)) = j_ := ⟨_, rfl⟩
    replace H : (if 0 ≤ (ji4) then (if (ji4) ≤ (l0.length : Int) then (if 0 ≤ ((l0.drop ((ji4) : Int).toNat).length : Int) then (if (((l0.drop ((ji4) : Int).toNat).length : Int) : Int).toNat ≤ 70368744177664 then (smallbig_nat_rsh.l0 k (l0.drop ((ji4) : Int).toNat) (Int.tmod a1 32) (List.replicate (((l0.drop ((ji4) : Int).toNat).length : Int) : Int).toNat 0) ((l0.drop ((ji4) : Int).toNat).length : Int) 0) else (none)) else (none)) else (none)) else (none)) = some r := by first | (rw [hji4] at H; exact H) | (simp only [hji4] at H ⊢; exact H)
    (try rw [hji4] at c3b0)
    by_cases c5 : 0 ≤ (ji4)
    · rw [if_pos c5] at H
      have c5b0 := eq_true c5
      have c5b1 : decide (0 ≤ (ji4)) = true := decide_eq_true c5
      clear c5
      by_cases c6 : (ji4) ≤ (l0.length : Int)
      · rw [if_pos c6] at H
        have c6b0 := eq_true c6
        have c6b1 : decide ((ji4) ≤ (l0.length : Int)) = true := decide_eq_true c6
        clear c6
        obtain ⟨dl, hdl⟩ : ∃ l_ : List Int, (l0.drop ((ji4) : Int).toNat) = l_ := ⟨_, rfl⟩
        rw [hdl] at H
        have NDL := Aside0.mk hdl
        clear hdl
        by_cases c7 : 0 ≤ (dl.length : Int)
        · rw [if_pos c7] at H
          have c7b0 := eq_true c7
          have c7b1 : decide (0 ≤ (dl.length : Int)) = true := decide_eq_true c7
          clear c7
          by_cases c8 : ((dl.length : Int) : Int).toNat ≤ 70368744177664
          · rw [if_pos c8] at H
            have c8b0 := eq_true c8
            have c8b1 : decide (((dl.length : Int) : Int).toNat ≤ 70368744177664) = true := decide_eq_true c8
            clear c8
            obtain ⟨y151, hy151⟩ : ∃ y_ : List Int, y_ = (List.replicate ((dl.length : Int) : Int).toNat 0) := ⟨_, rfl⟩
            replace H : (smallbig_nat_rsh.l0 k dl (Int.tmod a1 32) y151 (dl.length : Int) 0) = some r := by first | (rw [hy151]; with_reducible exact H) | (have H2_ := (Option.bind_some _ _).symm.trans H; rw [hy151]; with_reducible exact H2_) | (have H2_ := (Option.bind_some _ _).symm.trans H; with_reducible exact H2_) | with_reducible exact H | (rw [hy151]; exact H) | exact H
            have Ny151 := Aside0.mk hy151
            clear hy151
            have H' := Aside0.mk H
            clear H
            obtain ⟨i09, hi09, _, hsz9, _⟩ := info_parts info84
            obtain ⟨A9, hcut9, hA9, hC9⟩ := print_drop_of (P := Tryd.prog) (Value.int .u32) 0 64 84 .u64 Tryd.underlying64 hi09 hsz9 A0 c0 l0 (ji4) (of_decide_eq_true (by first | (with_reducible assumption) | assumption)) (of_decide_eq_true (by first | (with_reducible assumption) | assumption)) HC0.out
            simp only [NDL.out] at hcut9 hA9 hC9
            have HR150 := Aside0.mk (Kd.C_of_reads (h1 := fun _ => rfl) (hA9 _ (Kd.reads_of_C HR0.out)))
            have HC150 := Aside0.mk hC9
            clear hA9 hC9 hi09 hsz9
            go_enter Tryd.func82, Tryd.ntmps82
            go_wp2_with (first | ((with_reducible refine gate_dst (N := 24) rfl ?_); refine Kd.R_make (Kd.int .u32) _ 84 rfl (N := 24) rfl 64 _ _ rfl (dl.length : Int) rfl rfl Tryd.underlying64 (.int .u32 0) 4 info84 rfl (by decide) (by omega) 0 (ok := fun _ => True) (okp := fun _ => True) rfl (fun _ hk => hk) trivial (of_decide_eq_true (by first | (with_reducible assumption) | assumption)) (Nat.le_trans (Nat.mul_le_mul_right _ (of_decide_eq_true (by first | (with_reducible assumption) | assumption) : (dl.length : Int).toNat ≤ 70368744177664)) (by omega)) (Below.refl _ _) (Nat.le_refl _) ?_; intro v152 w10 ho11 hb hg_ hnew_; clear hg_ hnew_; (first | rw [← Ny151.out] at ho11 | (simp only [Int.reduceToNat] at ho11; rw [← Ny151.out] at ho11)); have n0_ := Aside0.mk (Kd.R_lower (Kd.R_newM (M := fun k_ => (w.heap.size ≤ k_)) ho11 (below_size (by repeat (first | (with_reducible first | exact HB.out | apply below_alloc | apply pw_below_drewN | apply below_drew1) | exact HB.out))) (fun k_ h_ => h_)) (below_size (by repeat (first | (with_reducible first | exact HB.out | apply below_alloc | apply pw_below_drewN | apply below_drew1) | exact HB.out)))); have n1_ := Aside0.mk (below_step (by repeat (first | (with_reducible first | exact HB.out | apply below_alloc | apply pw_below_drewN | apply below_drew1) | exact HB.out)) hb); clear HB; have HO153 := n0_; have HB := n1_; clear n0_ n1_; clear hb ho11))
            go_loopg [27] k (fun kq v27 w' => ∃ (x7_1 : List Int) (x27_1 : Int), v27 = .int .i64 x27_1 ∧ Aside0 (smallbig_nat_rsh.l0 kq dl (Int.tmod a1 32) x7_1 (dl.length : Int) x27_1 = some r) ∧ Aside0 (kq ≤ k) ∧ Aside0 (Kd.R (Kd.int .u32) 84 w' w.heap.size (fun k_ => (w.heap.size ≤ k_)) v152 x7_1) ∧ Aside0 (Below w.heap.size w w'))
            case atStart => exact ⟨(y151), (0), (by first | rfl | (simp; done) | (simp [*]; done)), H', ⟨Nat.le_refl _⟩, ⟨by (with_reducible repeat (first | apply Kd.R_alloc | apply Kd.R_drewN | apply Kd.R_drew)); exact Kd.R_mono HO153.out (fun _ hk => hk.1)⟩, ⟨by repeat (first | (with_reducible first | exact HB.out | apply below_alloc | apply pw_below_drewN | apply below_drew1) | exact HB.out)⟩⟩
            case round =>
              clear H'
              try clear p2
              try clear c3
              try clear c3b0
              try clear c5
              try clear c5b0
              try clear c5b1
              try clear c6
              try clear c6b0
              try clear c6b1
              try clear c7
              try clear c7b0
              try clear c7b1
              try clear c8
              try clear c8b0
              try clear c8b1
              obtain ⟨x7_1, x27_1, rfl, HA, HK1, HO_7, HB⟩ := hrel
              cases gk with
              | zero => exact absurd HA.out (by simp [smallbig_nat_rsh.l0])
              | succ k1 =>
                have H := HA.out
                clear HA
                simp only [smallbig_nat_rsh.l0] at H
                by_cases c12 : x27_1 < (dl.length : Int)
                · rw [if_pos c12] at H
                  have c12b0 : decide (x27_1 < (dl.length : Int)) = true := decide_eq_true c12
                  clear c12
                  by_cases c13 : 0 ≤ x27_1
                  · rw [if_pos c13] at H
                    have c13b0 : decide (0 ≤ x27_1) = true := decide_eq_true c13
                    clear c13
                    by_cases c14 : x27_1 < (dl.length : Int)
                    · rw [if_pos c14] at H
                      have c14b0 : decide (x27_1 < (dl.length : Int)) = true := decide_eq_true c14
                      clear c14
                      by_cases c15 : (wrap64 (x27_1 + 1)) < (dl.length : Int)
                      · rw [if_pos c15] at H
                        have c15b0 : decide ((wrap64 (x27_1 + 1)) < (dl.length : Int)) = true := decide_eq_true c15
                        clear c15
                        obtain ⟨ji16, hji16⟩ : ∃ j_ : Int, (wrap64 (x27_1 + 1)) = j_ := ⟨_, rfl⟩
                        replace H : (if 0 ≤ (ji16) then (if 0 ≤ (Int.tmod a1 32) then (if x27_1 < (x7_1.length : Int) then (smallbig_nat_rsh.l0 k1 dl (Int.tmod a1 32) (x7_1.set (x27_1 : Int).toNat ((shr .u64 (Go.bits .or .u64 (IntKind.u64.wrap (rd dl x27_1)) (IntKind.u64.wrap ((IntKind.u64.wrap (rd dl (ji16))) * 4294967296))) (Int.tmod a1 32)) % 4294967296)) (dl.length : Int) ji16) else (none)) else (none)) else (none)) = some r := by first | (rw [hji16] at H; exact H) | (simp only [hji16] at H ⊢; exact H)
                        (try rw [hji16] at c15b0)
                        have hji16w : (IntKind.i64.wrap (x27_1 + 1)) = ji16 := (i64_w _).trans hji16
                        by_cases c17 : 0 ≤ (ji16)
                        · rw [if_pos c17] at H
                          have c17b0 : decide (0 ≤ (ji16)) = true := decide_eq_true c17
                          clear c17
                          obtain ⟨ji18, hji18⟩ : ∃ j_ : Int, (Int.tmod a1 32) = j_ := ⟨_, rfl⟩
                          replace H : (if 0 ≤ (ji18) then (if x27_1 < (x7_1.length : Int) then (smallbig_nat_rsh.l0 k1 dl (ji18) (x7_1.set (x27_1 : Int).toNat ((shr .u64 (Go.bits .or .u64 (IntKind.u64.wrap (rd dl x27_1)) (IntKind.u64.wrap ((IntKind.u64.wrap (rd dl (ji16))) * 4294967296))) (ji18)) % 4294967296)) (dl.length : Int) ji16) else (none)) else (none)) = some r := by first | (rw [hji18] at H; exact H) | (simp only [hji18] at H ⊢; exact H)
                          by_cases c19 : 0 ≤ (ji18)
                          · rw [if_pos c19] at H
                            have c19b0 := eq_true c19
                            have c19b1 : decide (0 ≤ (ji18)) = true := decide_eq_true c19
                            clear c19
                            obtain ⟨ji20, hji20⟩ : ∃ j_ : Int, (shr .u64 (Go.bits .or .u64 (IntKind.u64.wrap (rd dl x27_1)) (IntKind.u64.wrap ((IntKind.u64.wrap (rd dl (ji16))) * 4294967296))) (ji18)) = j_ := ⟨_, rfl⟩
                            replace H : (if x27_1 < (x7_1.length : Int) then (smallbig_nat_rsh.l0 k1 dl (ji18) (x7_1.set (x27_1 : Int).toNat ((ji20) % 4294967296)) (dl.length : Int) ji16) else (none)) = some r := by first | (rw [hji20] at H; exact H) | (simp only [hji20] at H ⊢; exact H)
                            have hji20_ : ((Go.bits .or .u64 (IntKind.u64.wrap (rd dl x27_1)) (IntKind.u64.wrap ((IntKind.u64.wrap (rd dl (ji16))) * 4294967296))) / 2 ^ min (ji18).toNat 64) = ji20 := hji20
                            have hji20z : (ji18) ≤ 64 → ((Go.bits .or .u64 (IntKind.u64.wrap (rd dl x27_1)) (IntKind.u64.wrap ((IntKind.u64.wrap (rd dl (ji16))) * 4294967296))) / 2 ^ (ji18).toNat) = ji20 := shr_small hji20
                            by_cases c21 : x27_1 < (x7_1.length : Int)
                            · rw [if_pos c21] at H
                              have c21b0 : decide (x27_1 < (x7_1.length : Int)) = true := decide_eq_true c21
                              clear c21
                              obtain ⟨y156, hy156⟩ : ∃ y_ : List Int, y_ = (x7_1.set (x27_1 : Int).toNat ((ji20) % 4294967296)) := ⟨_, rfl⟩
                              replace H : (smallbig_nat_rsh.l0 k1 dl (ji18) y156 (dl.length : Int) ji16) = some r := by first | (rw [hy156]; with_reducible exact H) | (have H2_ := (Option.bind_some _ _).symm.trans H; rw [hy156]; with_reducible exact H2_) | (have H2_ := (Option.bind_some _ _).symm.trans H; with_reducible exact H2_) | with_reducible exact H | (rw [hy156]; exact H) | exact H
                              have Ny156 := Aside0.mk hy156
                              clear hy156
                              have H' := Aside0.mk H
                              clear H
                              have p154 : 0 ≤ (x27_1 : Int) := of_decide_eq_true (by first | (with_reducible assumption) | assumption)
                              have q154 : x27_1 < (dl.length : Int) := of_decide_eq_true (by first | (with_reducible assumption) | assumption)
                              obtain ⟨ad154, e154, hx154_0⟩ := Kd.at_int HR150.out x27_1 p154 q154
                              cases e154
                              replace hx154_0 := (HB.out.cell (World.block_lt_of_cell? w _ hx154_0)).trans hx154_0
                              replace p154 := eq_true p154
                              replace q154 := eq_true q154
                              have p155 : 0 ≤ ((ji16) : Int) := of_decide_eq_true (by first | (with_reducible assumption) | assumption)
                              have q155 : (ji16) < (dl.length : Int) := of_decide_eq_true (by first | (with_reducible assumption) | assumption)
                              obtain ⟨ad155, e155, hx155_0⟩ := Kd.at_int HR150.out (ji16) p155 q155
                              obtain rfl : ad154 = ad155 := (by injection e155)
                              replace hx155_0 := (HB.out.cell (World.block_lt_of_cell? w _ hx155_0)).trans hx155_0
                              replace p155 := eq_true p155
                              replace q155 := eq_true q155
                              have p22 : 0 ≤ (x27_1 : Int) := of_decide_eq_true (by first | (with_reducible assumption) | assumption)
                              have q22 : (x27_1 : Int) < ((x7_1.length : Int) : Int) := of_decide_eq_true (by first | (with_reducible assumption) | assumption)
                              obtain ⟨go22, co22, eo22, gb22, gl22, cl22, HG22⟩ := Kd.R_form HO_7.out (by omega)
                              (first | cases eo22 | (injection eo22 with ea_ en_ ec_; (first | subst ea_ | (injection ea_ with ea_; subst ea_)); subst ec_; clear en_))
                              have GB22 := Aside0.mk gb22
                              have GG22 := Aside0.mk HG22
                              clear gb22 gl22 HG22
                              obtain ⟨hx22_0, hf22_0⟩ := Kd.R_celln 0 HO_7.out (x27_1 : Int) p22 q22
                              replace p22 := eq_true p22
                              replace q22 := eq_true q22
                              have HP23 := Kd.R_putg HO_7.out (x27_1 : Int) ((ji20) % 4294967296)
                              go_wp2_with (first | ((with_reducible refine gate_store (t := 84) (p := 55) rfl ?_); refine store_event (t := 84) (p := 55) (v := ?vo_w24) (w1 := (wr.setCell ⟨go22, (x27_1 : Int).toNat, none⟩ (.int .u32 ((ji20) % 4294967296)))) ?hg ?ho ?hn ?hr ?_; (case ho => rfl); (case hg => rfl); (case hn => rfl); (case hr => first | (go_simp; done) | (go_simp; rfl)); intro w24 hw; have hg : wr.grownBy w24 (some go22) := (by rw [hw]; exact HP23.2); have hp_ : Kd.R (Kd.int .u32) 84 w24 w.heap.size (fun k_ => (w.heap.size ≤ k_)) (.slice (some ⟨go22, 0, none⟩) x7_1.length co22) y156 := (by rw [hw, Ny156.out]; exact HP23.1); clear HP23; have n0_ := Aside0.mk (hp_); have n1_ := Aside0.mk ((by rw [hw]; exact below_set (HB.out) GB22.out : Below w.heap.size w w24)); clear HO_7; clear HB; have HO_7 := n0_; have HB := n1_; clear n0_ n1_; clear hg hw hp_))
                              subst hji18
                              go_roundg k1
                              case measure => have := HK1.out; omega
                              case rel => exact ⟨(y156), (ji16), (by first | rfl | (simp; done) | (simp only [← hji16] <;> (first | rfl | simp)) | (simp [*]; done)), H', ⟨by have := HK1.out; omega⟩, ⟨by (with_reducible repeat (first | apply Kd.R_alloc | apply Kd.R_drewN | apply Kd.R_drew)); exact HO_7.out⟩, ⟨by repeat (first | (with_reducible first | exact HB.out | apply below_alloc | apply pw_below_drewN | apply below_drew1) | exact HB.out)⟩⟩
                            · rw [if_neg c21] at H
                              exact absurd H (by simp)
                          · rw [if_neg c19] at H
                            exact absurd H (by simp)
                        · rw [if_neg c17] at H
                          exact absurd H (by simp)
                      · rw [if_neg c15] at H
                        have c15b0 : decide ((wrap64 (x27_1 + 1)) < (dl.length : Int)) = false := decide_eq_false c15
                        clear c15
                        obtain ⟨ji25, hji25⟩ : ∃ j_ : Int, (Int.tmod a1 32) = j_ := ⟨_, rfl⟩
                        replace H : (if 0 ≤ (ji25) then (if x27_1 < (x7_1.length : Int) then (smallbig_nat_rsh.l0 k1 dl (ji25) (x7_1.set (x27_1 : Int).toNat ((shr .u64 (IntKind.u64.wrap (rd dl x27_1)) (ji25)) % 4294967296)) (dl.length : Int) (wrap64 (x27_1 + 1))) else (none)) else (none)) = some r := by first | (rw [hji25] at H; exact H) | (simp only [hji25] at H ⊢; exact H)
                        by_cases c26 : 0 ≤ (ji25)
                        · rw [if_pos c26] at H
                          have c26b0 := eq_true c26
                          have c26b1 : decide (0 ≤ (ji25)) = true := decide_eq_true c26
                          clear c26
                          obtain ⟨ji27, hji27⟩ : ∃ j_ : Int, (shr .u64 (IntKind.u64.wrap (rd dl x27_1)) (ji25)) = j_ := ⟨_, rfl⟩
                          replace H : (if x27_1 < (x7_1.length : Int) then (smallbig_nat_rsh.l0 k1 dl (ji25) (x7_1.set (x27_1 : Int).toNat ((ji27) % 4294967296)) (dl.length : Int) (wrap64 (x27_1 + 1))) else (none)) = some r := by first | (rw [hji27] at H; exact H) | (simp only [hji27] at H ⊢; exact H)
                          have hji27_ : ((IntKind.u64.wrap (rd dl x27_1)) / 2 ^ min (ji25).toNat 64) = ji27 := hji27
                          have hji27z : (ji25) ≤ 64 → ((IntKind.u64.wrap (rd dl x27_1)) / 2 ^ (ji25).toNat) = ji27 := shr_small hji27
                          by_cases c28 : x27_1 < (x7_1.length : Int)
                          · rw [if_pos c28] at H
                            have c28b0 : decide (x27_1 < (x7_1.length : Int)) = true := decide_eq_true c28
                            clear c28
                            obtain ⟨y157, hy157⟩ : ∃ y_ : List Int, y_ = (x7_1.set (x27_1 : Int).toNat ((ji27) % 4294967296)) := ⟨_, rfl⟩
                            replace H : (smallbig_nat_rsh.l0 k1 dl (ji25) y157 (dl.length : Int) (wrap64 (x27_1 + 1))) = some r := by first | (rw [hy157]; with_reducible exact H) | (have H2_ := (Option.bind_some _ _).symm.trans H; rw [hy157]; with_reducible exact H2_) | (have H2_ := (Option.bind_some _ _).symm.trans H; with_reducible exact H2_) | with_reducible exact H | (rw [hy157]; exact H) | exact H
                            have Ny157 := Aside0.mk hy157
                            clear hy157
                            have H' := Aside0.mk H
                            clear H
                            have p154 : 0 ≤ (x27_1 : Int) := of_decide_eq_true (by first | (with_reducible assumption) | assumption)
                            have q154 : x27_1 < (dl.length : Int) := of_decide_eq_true (by first | (with_reducible assumption) | assumption)
                            obtain ⟨ad154, e154, hx154_0⟩ := Kd.at_int HR150.out x27_1 p154 q154
                            cases e154
                            replace hx154_0 := (HB.out.cell (World.block_lt_of_cell? w _ hx154_0)).trans hx154_0
                            replace p154 := eq_true p154
                            replace q154 := eq_true q154
                            have p29 : 0 ≤ (x27_1 : Int) := of_decide_eq_true (by first | (with_reducible assumption) | assumption)
                            have q29 : (x27_1 : Int) < ((x7_1.length : Int) : Int) := of_decide_eq_true (by first | (with_reducible assumption) | assumption)
                            obtain ⟨go29, co29, eo29, gb29, gl29, cl29, HG29⟩ := Kd.R_form HO_7.out (by omega)
                            (first | cases eo29 | (injection eo29 with ea_ en_ ec_; (first | subst ea_ | (injection ea_ with ea_; subst ea_)); subst ec_; clear en_))
                            have GB29 := Aside0.mk gb29
                            have GG29 := Aside0.mk HG29
                            clear gb29 gl29 HG29
                            obtain ⟨hx29_0, hf29_0⟩ := Kd.R_celln 0 HO_7.out (x27_1 : Int) p29 q29
                            replace p29 := eq_true p29
                            replace q29 := eq_true q29
                            have HP30 := Kd.R_putg HO_7.out (x27_1 : Int) ((ji27) % 4294967296)
                            go_wp2_with (first | ((with_reducible refine gate_store (t := 84) (p := 55) rfl ?_); refine store_event (t := 84) (p := 55) (v := ?vo_w31) (w1 := (wr.setCell ⟨go29, (x27_1 : Int).toNat, none⟩ (.int .u32 ((ji27) % 4294967296)))) ?hg ?ho ?hn ?hr ?_; (case ho => rfl); (case hg => rfl); (case hn => rfl); (case hr => first | (go_simp; done) | (go_simp; rfl)); intro w31 hw; have hg : wr.grownBy w31 (some go29) := (by rw [hw]; exact HP30.2); have hp_ : Kd.R (Kd.int .u32) 84 w31 w.heap.size (fun k_ => (w.heap.size ≤ k_)) (.slice (some ⟨go29, 0, none⟩) x7_1.length co29) y157 := (by rw [hw, Ny157.out]; exact HP30.1); clear HP30; have n0_ := Aside0.mk (hp_); have n1_ := Aside0.mk ((by rw [hw]; exact below_set (HB.out) GB29.out : Below w.heap.size w w31)); clear HO_7; clear HB; have HO_7 := n0_; have HB := n1_; clear n0_ n1_; clear hg hw hp_))
                            subst hji25
                            go_roundg k1
                            case measure => have := HK1.out; omega
                            case rel => exact ⟨(y157), (wrap64 (x27_1 + 1)), (by first | rfl | (simp; done) | (simp [*]; done)), H', ⟨by have := HK1.out; omega⟩, ⟨by (with_reducible repeat (first | apply Kd.R_alloc | apply Kd.R_drewN | apply Kd.R_drew)); exact HO_7.out⟩, ⟨by repeat (first | (with_reducible first | exact HB.out | apply below_alloc | apply pw_below_drewN | apply below_drew1) | exact HB.out)⟩⟩
                          · rw [if_neg c28] at H
                            exact absurd H (by simp)
                        · rw [if_neg c26] at H
                          exact absurd H (by simp)
                    · rw [if_neg c14] at H
                      exact absurd H (by simp)
                  · rw [if_neg c13] at H
                    exact absurd H (by simp)
                · rw [if_neg c12] at H
                  have c12b0 : decide (x27_1 < (dl.length : Int)) = false := decide_eq_false c12
                  clear c12
                  replace H := Option.bind_eq_some_iff.mp H
                  obtain ⟨t158, A320, H⟩ := H
                  replace H : (some t158) = some r := H
                  have A32 := Aside0.mk A320
                  clear A320
                  obtain rfl := Option.some.inj H
                  obtain ⟨Ao33, co33, eo33⟩ := Kd.R_slice HO_7.out
                  subst eo33
                  go_wp2_with (first | ((with_reducible refine gate_callee (f := 57) rfl ?_); refine goesL_ (some 58) rfl rfl Tryd.func57 (by kernel_rfl) rfl #[.slice Ao33 x7_1.length co33] rfl (by (try simp only [List.map_toArray, List.map_cons, List.map_nil]); first | done | rfl | (simp only [List.length_drop, List.length_take]; rfl)) ?_; (with_reducible refine (smallbig_nat_norm.calls k1 (fun k_ => some k_ = (.slice Ao33 x7_1.length co33 : Value).ownBlock) _ _ x7_1 t158 _ ?side1 A32.out).mono ?_); (case side1 => exact Kd.R_V (Kd.R_tight rfl (HO_7.out))); rintro e w34 ⟨v159, rfl, ho0, hb⟩; refine ⟨_, rfl, ?_⟩; have n0_ := Aside0.mk (Kd.R_below (by (with_reducible repeat (first | apply Kd.R_alloc | apply Kd.R_drewN | apply Kd.R_drew)); exact HO_7.out) hb); have n1_ := Aside0.mk (Kd.V_lower (Kd.V_mono (ok' := fun k_ => (w.heap.size ≤ k_)) ho0 (fun k_ hk_ => Or.elim hk_ (fun hs_ => ((HO_7.out).1 k_ hs_.symm)) (fun hn_ => (Nat.le_trans (below_size (by repeat (first | (with_reducible first | exact HB.out | apply below_alloc | apply pw_below_drewN | apply below_drew1) | exact HB.out))) hn_)))) (below_size (by repeat (first | (with_reducible first | exact HB.out | apply below_alloc | apply pw_below_drewN | apply below_drew1) | exact HB.out)))); have n2_ := Aside0.mk (below_step (by repeat (first | (with_reducible first | exact HB.out | apply below_alloc | apply pw_below_drewN | apply below_drew1) | exact HB.out)) hb); clear HO_7; clear HB; have HO_7 := n0_; have HO160 := n1_; have HB := n2_; clear n0_ n1_ n2_; (try clear hb); (try clear hb2); (try clear hk); (try clear hi); (try clear ho0)))
                  go_ret
                  exact ⟨_, by first | rfl | (simp [errW_none, errW_some] <;> rfl) | (simp only [← hji4]; first | rfl | (simp [errW_none, errW_some] <;> rfl)) | (simp [*, errW_none, errW_some] <;> rfl), by (with_reducible repeat (first | apply Kd.V_alloc | apply Kd.V_drewN | apply Kd.V_drew)); exact HO160.out, by repeat (first | (with_reducible first | exact HB.out | apply below_alloc | apply pw_below_drewN | apply below_drew1) | exact HB.out)⟩
          · rw [if_neg c8] at H
            exact absurd H (by simp)
        · rw [if_neg c7] at H
          exact absurd H (by simp)
      · rw [if_neg c6] at H
        exact absurd H (by simp)
    · rw [if_neg c5] at H
      exact absurd H (by simp)

-- NOT PRINTED: function 72 (smallbig_Int_Rsh)

/-! ### smallbig_nat_low64: function 83 -/
def smallbig_nat_low64.l0 : Nat → List Int → Int → Int → Option (Int)
  | 0, _, _, _ => none
  | k + 1, x0, x3, x4 => if x4 < (x0.length : Int) then (if x4 < 2 then (if 0 ≤ x4 then (if 0 ≤ (wrap64 (32 * x4)) then (smallbig_nat_low64.l0 k x0 (Go.bits .or .u64 x3 (shl .u64 (IntKind.u64.wrap (rd x0 x4)) (wrap64 (32 * x4)))) (wrap64 (x4 + 1))) else (none)) else (none)) else (some x3)) else (some x3)
def smallbig_nat_low64.f (k : Nat) (l0 : List Int) : Option (Int) := smallbig_nat_low64.l0 k l0 0 0
theorem smallbig_nat_low64.mono_l : ∀ k, (∀ y0 y1 y2, LeO (smallbig_nat_low64.l0 k y0 y1 y2) (smallbig_nat_low64.l0 (k + 1) y0 y1 y2))
  | 0 => fun _ _ _ r h => by simp [smallbig_nat_low64.l0] at h
  | k + 1 => by
    have ih0 := smallbig_nat_low64.mono_l k
    · intro y0 y1 y2
      unfold smallbig_nat_low64.l0
      repeat' first
      | (with_reducible exact ih0 _ _ _)
      | (with_reducible exact LeO.refl _)
      | (with_reducible exact LeO.none _)
      | (with_reducible refine LeO.ite ?_ ?_)
      | (with_reducible refine LeO.bind ?_ (fun _ => ?_))
      | exact ih0 _ _ _
      | exact LeO.none _
      | refine LeO.ite ?_ ?_
      | refine LeO.bind ?_ (fun _ => ?_)
theorem smallbig_nat_low64.mono : ∀ a0 k, LeO (smallbig_nat_low64.f k a0) (smallbig_nat_low64.f (k + 1) a0) := by
  intro a0 k
  have ih0 := smallbig_nat_low64.mono_l k
  unfold smallbig_nat_low64.f
  repeat' first
      | (with_reducible exact ih0 _ _ _)
      | (with_reducible exact LeO.refl _)
      | (with_reducible exact LeO.none _)
      | (with_reducible refine LeO.ite ?_ ?_)
      | (with_reducible refine LeO.bind ?_ (fun _ => ?_))
      | exact ih0 _ _ _
      | exact LeO.none _
      | refine LeO.ite ?_ ?_
      | refine LeO.bind ?_ (fun _ => ?_)
set_option maxHeartbeats 8000000 in
set_option maxRecDepth 100000 in
theorem smallbig_nat_low64.calls (k : Nat) (A0 : Option Addr) (c0 : Nat) (l0 : List Int) (r : Int) (w : World) (hr0 : Kd.C (Kd.int .u32) w A0 l0.length l0) (hc0 : l0.length ≤ c0) (h : smallbig_nat_low64.f k l0 = some r) :
    Calls Tryd.prog 83 #[.slice A0 l0.length c0] w fun e w' => e = .returned (.int .u64 r) ∧ Drawn0 w w' := by
  have HR0 := Aside0.mk hr0
  have HC0 := Aside0.mk hc0
  clear hr0 hc0
  have H : (smallbig_nat_low64.l0 k l0 0 0) = some r := h
  clear h
  have H' := Aside0.mk H
  clear H
  go_enter Tryd.func83, Tryd.ntmps83
  go_wp2
  go_loopg [3, 4] k (fun kq v3 v4 w' => ∃ (x3_1 : Int) (x4_1 : Int), v3 = .int .u64 x3_1 ∧ v4 = .int .i64 x4_1 ∧ Aside0 (smallbig_nat_low64.l0 kq l0 x3_1 x4_1 = some r) ∧ Aside0 (kq ≤ k) ∧ Drawn0 w w')
  case atStart => exact ⟨(0), (0), (by first | rfl | (simp; done) | (simp [*]; done)), (by first | rfl | (simp; done) | (simp [*]; done)), H', ⟨Nat.le_refl _⟩, by repeat (first | exact Drawn0.refl _ | apply Drawn0.step)⟩
  case round =>
    clear H'
    obtain ⟨x3_1, x4_1, rfl, rfl, HA, HK1, ⟨m1, rfl⟩⟩ := hrel
    cases gk with
    | zero => exact absurd HA.out (by simp [smallbig_nat_low64.l0])
    | succ k1 =>
      have H := HA.out
      clear HA
      simp only [smallbig_nat_low64.l0] at H
      by_cases c2 : x4_1 < (l0.length : Int)
      · rw [if_pos c2] at H
        have c2b0 : decide (x4_1 < (l0.length : Int)) = true := decide_eq_true c2
        clear c2
        by_cases c3 : x4_1 < 2
        · rw [if_pos c3] at H
          have c3b0 : decide (x4_1 < 2) = true := decide_eq_true c3
          clear c3
          by_cases c4 : 0 ≤ x4_1
          · rw [if_pos c4] at H
            have c4b0 : decide (0 ≤ x4_1) = true := decide_eq_true c4
            clear c4
            obtain ⟨ji5, hji5⟩ : ∃ j_ : Int, (wrap64 (32 * x4_1)) = j_ := ⟨_, rfl⟩
            replace H : (if 0 ≤ (ji5) then (smallbig_nat_low64.l0 k1 l0 (Go.bits .or .u64 x3_1 (shl .u64 (IntKind.u64.wrap (rd l0 x4_1)) (ji5))) (wrap64 (x4_1 + 1))) else (none)) = some r := by first | (rw [hji5] at H; exact H) | (simp only [hji5] at H ⊢; exact H)
            have hji5w : (IntKind.i64.wrap (32 * x4_1)) = ji5 := (i64_w _).trans hji5
            by_cases c6 : 0 ≤ (ji5)
            · rw [if_pos c6] at H
              have c6b0 := eq_true c6
              have c6b1 : decide (0 ≤ (ji5)) = true := decide_eq_true c6
              clear c6
              obtain ⟨ji7, hji7⟩ : ∃ j_ : Int, (shl .u64 (IntKind.u64.wrap (rd l0 x4_1)) (ji5)) = j_ := ⟨_, rfl⟩
              replace H : (smallbig_nat_low64.l0 k1 l0 (Go.bits .or .u64 x3_1 (ji7)) (wrap64 (x4_1 + 1))) = some r := by first | (rw [hji7] at H; exact H) | (simp only [hji7] at H ⊢; exact H)
              have hji7_ : (IntKind.u64.wrap ((IntKind.u64.wrap (rd l0 x4_1)) * 2 ^ min (ji5).toNat 64)) = ji7 := hji7
              have hji7z : (ji5) ≤ 64 → (IntKind.u64.wrap ((IntKind.u64.wrap (rd l0 x4_1)) * 2 ^ (ji5).toNat)) = ji7 := shl_small hji7
              have H' := Aside0.mk H
              clear H
              have p161 : 0 ≤ (x4_1 : Int) := of_decide_eq_true (by first | (with_reducible assumption) | assumption)
              have q161 : x4_1 < (l0.length : Int) := of_decide_eq_true (by first | (with_reducible assumption) | assumption)
              obtain ⟨ad161, e161, hx161_0⟩ := Kd.at_int HR0.out x4_1 p161 q161
              cases e161
              replace p161 := eq_true p161
              replace q161 := eq_true q161
              go_wp2
              go_roundg k1
              case measure => have := HK1.out; omega
              case rel => exact ⟨(Go.bits .or .u64 x3_1 (ji7)), (wrap64 (x4_1 + 1)), (by first | rfl | (simp; done) | (simp only [← hji7] <;> (first | rfl | simp)) | (simp [*]; done)), (by first | rfl | (simp; done) | (simp [*]; done)), H', ⟨by have := HK1.out; omega⟩, by repeat (first | exact Drawn0.refl _ | apply Drawn0.step)⟩
            · rw [if_neg c6] at H
              exact absurd H (by simp)
          · rw [if_neg c4] at H
            exact absurd H (by simp)
        · rw [if_neg c3] at H
          have c3b0 : decide (x4_1 < 2) = false := decide_eq_false c3
          clear c3
          obtain rfl := Option.some.inj H
          go_wp2
          go_ret
          exact ⟨by first | rfl | (simp; done) | (simp [*]; done), by repeat (first | exact Drawn0.refl _ | apply Drawn0.step)⟩
      · rw [if_neg c2] at H
        have c2b0 : decide (x4_1 < (l0.length : Int)) = false := decide_eq_false c2
        clear c2
        obtain rfl := Option.some.inj H
        go_wp2
        go_ret
        exact ⟨by first | rfl | (simp; done) | (simp [*]; done), by repeat (first | exact Drawn0.refl _ | apply Drawn0.step)⟩

-- NOT PRINTED: function 73 (smallbig_Int_Bits)

-- NOT PRINTED: function 54 (x509_appendBase128BigInt)

-- NOT PRINTED: function 37 (x509_OID_unmarshalOIDText)

-- NOT PRINTED: function 20 (x509_ParseOID)

-- NOT PRINTED: function 55 (abi_NoEscape)

-- NOT PRINTED: function 39 (strings_Builder_copyCheck)

-- NOT PRINTED: function 56 (bytealg_MakeNoZero)

-- NOT PRINTED: function 40 (strings_Builder_grow)

-- NOT PRINTED: function 24 (strings_Builder_Grow)

-- NOT PRINTED: function 25 (strings_Builder_WriteByte)

-- NOT PRINTED: function 26 (smallbig_Int_SetUint64)

/-! ### smallbig_nat_lsh: function 42 -/
def smallbig_nat_lsh.l0 : Nat → Int → Int → List Int → List Int → Int → Int → Option (List Int)
  | 0, _, _, _, _, _, _ => none
  | k + 1, x5, x6, x7, x25, x26, x27 => if x27 < x26 then (if 0 ≤ x27 then (if x27 < (x25.length : Int) then (if 0 ≤ x6 then (if 0 ≤ (wrap64 (x27 + x5)) then (if (wrap64 (x27 + x5)) < (x7.length : Int) then (if 0 ≤ (wrap64 ((wrap64 (x27 + x5)) + 1)) then (if (wrap64 ((wrap64 (x27 + x5)) + 1)) < (x7.length : Int) then (smallbig_nat_lsh.l0 k x5 x6 ((x7.set ((wrap64 (x27 + x5)) : Int).toNat (Go.bits .or .u32 (rd x7 (wrap64 (x27 + x5))) ((shl .u64 (IntKind.u64.wrap (rd x25 x27)) x6) % 4294967296))).set ((wrap64 ((wrap64 (x27 + x5)) + 1)) : Int).toNat (((shl .u64 (IntKind.u64.wrap (rd x25 x27)) x6) / 4294967296) % 4294967296)) x25 x26 (wrap64 (x27 + 1))) else (none)) else (none)) else (none)) else (none)) else (none)) else (none)) else (none)) else ((smallbig_nat_norm.f k x7).bind fun t171 => (some t171))
def smallbig_nat_lsh.f (k : Nat) (l0 : List Int) (a1 : Int) : Option (List Int) := if (l0.length : Int) = 0 then (some ([] : List Int)) else (if 0 ≤ (wrap64 ((wrap64 ((l0.length : Int) + (wrap64 (IntKind.u64.wrap (Int.tdiv a1 32))))) + 1)) then (if (wrap64 ((wrap64 ((l0.length : Int) + (wrap64 (IntKind.u64.wrap (Int.tdiv a1 32))))) + 1) : Int).toNat ≤ 70368744177664 then (smallbig_nat_lsh.l0 k (wrap64 (IntKind.u64.wrap (Int.tdiv a1 32))) (Int.tmod a1 32) (List.replicate (wrap64 ((wrap64 ((l0.length : Int) + (wrap64 (IntKind.u64.wrap (Int.tdiv a1 32))))) + 1) : Int).toNat 0) l0 (l0.length : Int) 0) else (none)) else (none))
theorem smallbig_nat_lsh.mono_l : ∀ k, (∀ y0 y1 y2 y3 y4 y5, LeO (smallbig_nat_lsh.l0 k y0 y1 y2 y3 y4 y5) (smallbig_nat_lsh.l0 (k + 1) y0 y1 y2 y3 y4 y5))
  | 0 => fun _ _ _ _ _ _ r h => by simp [smallbig_nat_lsh.l0] at h
  | k + 1 => by
    have ih0 := smallbig_nat_lsh.mono_l k
    · intro y0 y1 y2 y3 y4 y5
      unfold smallbig_nat_lsh.l0
      repeat' first
      | (with_reducible exact ih0 _ _ _ _ _ _)
      | (with_reducible exact smallbig_nat_norm.mono _ _)
      | (with_reducible exact LeO.refl _)
      | (with_reducible exact LeO.none _)
      | (with_reducible refine LeO.ite ?_ ?_)
      | (with_reducible refine LeO.bind ?_ (fun _ => ?_))
      | exact ih0 _ _ _ _ _ _
      | exact smallbig_nat_norm.mono _ _
      | exact LeO.none _
      | refine LeO.ite ?_ ?_
      | refine LeO.bind ?_ (fun _ => ?_)
theorem smallbig_nat_lsh.mono : ∀ a0 a1 k, LeO (smallbig_nat_lsh.f k a0 a1) (smallbig_nat_lsh.f (k + 1) a0 a1) := by
  intro a0 a1 k
  have ih0 := smallbig_nat_lsh.mono_l k
  unfold smallbig_nat_lsh.f
  repeat' first
      | (with_reducible exact ih0 _ _ _ _ _ _)
      | (with_reducible exact smallbig_nat_norm.mono _ _)
      | (with_reducible exact LeO.refl _)
      | (with_reducible exact LeO.none _)
      | (with_reducible refine LeO.ite ?_ ?_)
      | (with_reducible refine LeO.bind ?_ (fun _ => ?_))
      | exact ih0 _ _ _ _ _ _
      | exact smallbig_nat_norm.mono _ _
      | exact LeO.none _
      | refine LeO.ite ?_ ?_
      | refine LeO.bind ?_ (fun _ => ?_)
set_option maxHeartbeats 8000000 in
set_option maxRecDepth 100000 in
theorem smallbig_nat_lsh.calls (k : Nat) (A0 : Option Addr) (c0 : Nat) (l0 : List Int) (a1 : Int) (r : List Int) (w : World) (hr0 : Kd.C (Kd.int .u32) w A0 l0.length l0) (hc0 : l0.length ≤ c0) (h : smallbig_nat_lsh.f k l0 a1 = some r) :
    Calls Tryd.prog 42 #[.slice A0 l0.length c0, .int .u64 a1] w fun e w' => ∃ v0_ : Value, e = .returned (v0_) ∧ Kd.V (Kd.int .u32) 84 w' w.heap.size (fun k_ => (w.heap.size ≤ k_)) v0_ r ∧ Below w.heap.size w w' := by
  have HR0 := Aside0.mk hr0
  have HC0 := Aside0.mk hc0
  clear hr0 hc0
  have HB := Aside0.mk (Below.refl w.heap.size w)
  have H : (if (l0.length : Int) = 0 then (some ([] : List Int)) else (if 0 ≤ (wrap64 ((wrap64 ((l0.length : Int) + (wrap64 (IntKind.u64.wrap (Int.tdiv a1 32))))) + 1)) then (if (wrap64 ((wrap64 ((l0.length : Int) + (wrap64 (IntKind.u64.wrap (Int.tdiv a1 32))))) + 1) : Int).toNat ≤ 70368744177664 then (smallbig_nat_lsh.l0 k (wrap64 (IntKind.u64.wrap (Int.tdiv a1 32))) (Int.tmod a1 32) (List.replicate (wrap64 ((wrap64 ((l0.length : Int) + (wrap64 (IntKind.u64.wrap (Int.tdiv a1 32))))) + 1) : Int).toNat 0) l0 (l0.length : Int) 0) else (none)) else (none))) = some r := h
  clear h
  by_cases c3 : (l0.length : Int) = 0
  · rw [if_pos c3] at H
    have c3b0 : ((l0.length : Int) == 0) = true := beq_iff_eq.mpr c3
    have c3b1 : ((l0.length : Int) != 0) = false := bne_eq_false_iff_eq.mpr c3
    clear c3
    obtain rfl := Option.some.inj H
    go_enter Tryd.func42, Tryd.ntmps42
    go_wp2
    go_ret
    exact ⟨.slice none 0 0, rfl, Kd.R_V (Kd.R_nil (Kd.int .u32) 84 w 0 _), HB.out⟩
  · rw [if_neg c3] at H
    have c3b0 : ((l0.length : Int) == 0) = false := beq_eq_false_iff_ne.mpr c3
    have c3b1 : ((l0.length : Int) != 0) = true := bne_iff_ne.mpr c3
    have c3b2 : ¬ (l0 = []) := fun h_ => c3 (by rw [h_]; rfl)
    obtain ⟨ji4, hji4⟩ : ∃ j_ : Int, (wrap64 ((wrap64 ((l0.length : Int) + (wrap64 (IntKind.u64.wrap (Int.tdiv a1 32))))) + 1)) = j_ := ⟨_, rfl⟩
    replace H : (if 0 ≤ (ji4) then (if (ji4 : Int).toNat ≤ 70368744177664 then (smallbig_nat_lsh.l0 k (wrap64 (IntKind.u64.wrap (Int.tdiv a1 32))) (Int.tmod a1 32) (List.replicate (ji4 : Int).toNat 0) l0 (l0.length : Int) 0) else (none)) else (none)) = some r := by first | (rw [hji4] at H; exact H) | (simp only [hji4] at H ⊢; exact H)
    have hji4w : (IntKind.i64.wrap ((wrap64 ((l0.length : Int) + (wrap64 (IntKind.u64.wrap (Int.tdiv a1 32))))) + 1)) = ji4 := (i64_w _).trans hji4
    by_cases c5 : 0 ≤ (ji4)
    · rw [if_pos c5] at H
      have c5b0 := eq_true c5
      have c5b1 : decide (0 ≤ (ji4)) = true := decide_eq_true c5
      clear c5
      by_cases c6 : (ji4 : Int).toNat ≤ 70368744177664
      · rw [if_pos c6] at H
        have c6b0 := eq_true c6
        have c6b1 : decide ((ji4 : Int).toNat ≤ 70368744177664) = true := decide_eq_true c6
        clear c6
        obtain ⟨y164, hy164⟩ : ∃ y_ : List Int, y_ = (List.replicate (ji4 : Int).toNat 0) := ⟨_, rfl⟩
        replace H : (smallbig_nat_lsh.l0 k (wrap64 (IntKind.u64.wrap (Int.tdiv a1 32))) (Int.tmod a1 32) y164 l0 (l0.length : Int) 0) = some r := by first | (rw [hy164]; with_reducible exact H) | (have H2_ := (Option.bind_some _ _).symm.trans H; rw [hy164]; with_reducible exact H2_) | (have H2_ := (Option.bind_some _ _).symm.trans H; with_reducible exact H2_) | with_reducible exact H | (rw [hy164]; exact H) | exact H
        have Ny164 := Aside0.mk hy164
        clear hy164
        have H' := Aside0.mk H
        clear H
        go_enter Tryd.func42, Tryd.ntmps42
        go_wp2_with (first | ((with_reducible refine gate_dst (N := 24) rfl ?_); refine Kd.R_make (Kd.int .u32) _ 84 rfl (N := 24) rfl 64 _ _ rfl ji4 rfl rfl Tryd.underlying64 (.int .u32 0) 4 info84 rfl (by decide) (by omega) 0 (ok := fun _ => True) (okp := fun _ => True) rfl (fun _ hk => hk) trivial (of_decide_eq_true (by first | (with_reducible assumption) | assumption)) (Nat.le_trans (Nat.mul_le_mul_right _ (of_decide_eq_true (by first | (with_reducible assumption) | assumption) : ji4.toNat ≤ 70368744177664)) (by omega)) (Below.refl _ _) (Nat.le_refl _) ?_; intro v165 w7 ho8 hb hg_ hnew_; clear hg_ hnew_; (first | rw [← Ny164.out] at ho8 | (simp only [Int.reduceToNat] at ho8; rw [← Ny164.out] at ho8)); have n0_ := Aside0.mk (Kd.R_lower (Kd.R_newM (M := fun k_ => (w.heap.size ≤ k_)) ho8 (below_size (by repeat (first | (with_reducible first | exact HB.out | apply below_alloc | apply pw_below_drewN | apply below_drew1) | exact HB.out))) (fun k_ h_ => h_)) (below_size (by repeat (first | (with_reducible first | exact HB.out | apply below_alloc | apply pw_below_drewN | apply below_drew1) | exact HB.out)))); have n1_ := Aside0.mk (below_step (by repeat (first | (with_reducible first | exact HB.out | apply below_alloc | apply pw_below_drewN | apply below_drew1) | exact HB.out)) hb); clear HB; have HO166 := n0_; have HB := n1_; clear n0_ n1_; clear hb ho8))
        go_loopg [27] k (fun kq v27 w' => ∃ (x7_1 : List Int) (x27_1 : Int), v27 = .int .i64 x27_1 ∧ Aside0 (smallbig_nat_lsh.l0 kq (wrap64 (IntKind.u64.wrap (Int.tdiv a1 32))) (Int.tmod a1 32) x7_1 l0 (l0.length : Int) x27_1 = some r) ∧ Aside0 (kq ≤ k) ∧ Aside0 (Kd.R (Kd.int .u32) 84 w' w.heap.size (fun k_ => (w.heap.size ≤ k_)) v165 x7_1) ∧ Aside0 (Below w.heap.size w w'))
        case atStart => exact ⟨(y164), (0), (by first | rfl | (simp; done) | (simp [*]; done)), H', ⟨Nat.le_refl _⟩, ⟨by (with_reducible repeat (first | apply Kd.R_alloc | apply Kd.R_drewN | apply Kd.R_drew)); exact Kd.R_mono HO166.out (fun _ hk => hk.1)⟩, ⟨by repeat (first | (with_reducible first | exact HB.out | apply below_alloc | apply pw_below_drewN | apply below_drew1) | exact HB.out)⟩⟩
        case round =>
          clear H'
          try clear p2
          try clear c3
          try clear c3b0
          try clear c3b1
          try clear c3b2
          try clear c4
          try clear c5
          try clear c5b0
          try clear c5b1
          try clear c6
          try clear c6b0
          try clear c6b1
          try clear p6
          obtain ⟨x7_1, x27_1, rfl, HA, HK1, HO_7, HB⟩ := hrel
          cases gk with
          | zero => exact absurd HA.out (by simp [smallbig_nat_lsh.l0])
          | succ k1 =>
            have H := HA.out
            clear HA
            simp only [smallbig_nat_lsh.l0] at H
            by_cases c9 : x27_1 < (l0.length : Int)
            · rw [if_pos c9] at H
              have c9b0 : decide (x27_1 < (l0.length : Int)) = true := decide_eq_true c9
              clear c9
              by_cases c10 : 0 ≤ x27_1
              · rw [if_pos c10] at H
                have c10b0 : decide (0 ≤ x27_1) = true := decide_eq_true c10
                clear c10
                by_cases c11 : x27_1 < (l0.length : Int)
                · rw [if_pos c11] at H
                  have c11b0 : decide (x27_1 < (l0.length : Int)) = true := decide_eq_true c11
                  clear c11
                  obtain ⟨ji12, hji12⟩ : ∃ j_ : Int, (Int.tmod a1 32) = j_ := ⟨_, rfl⟩
                  replace H : (if 0 ≤ (ji12) then (if 0 ≤ (wrap64 (x27_1 + (wrap64 (IntKind.u64.wrap (Int.tdiv a1 32))))) then (if (wrap64 (x27_1 + (wrap64 (IntKind.u64.wrap (Int.tdiv a1 32))))) < (x7_1.length : Int) then (if 0 ≤ (wrap64 ((wrap64 (x27_1 + (wrap64 (IntKind.u64.wrap (Int.tdiv a1 32))))) + 1)) then (if (wrap64 ((wrap64 (x27_1 + (wrap64 (IntKind.u64.wrap (Int.tdiv a1 32))))) + 1)) < (x7_1.length : Int) then (smallbig_nat_lsh.l0 k1 (wrap64 (IntKind.u64.wrap (Int.tdiv a1 32))) (ji12) ((x7_1.set ((wrap64 (x27_1 + (wrap64 (IntKind.u64.wrap (Int.tdiv a1 32))))) : Int).toNat (Go.bits .or .u32 (rd x7_1 (wrap64 (x27_1 + (wrap64 (IntKind.u64.wrap (Int.tdiv a1 32)))))) ((shl .u64 (IntKind.u64.wrap (rd l0 x27_1)) (ji12)) % 4294967296))).set ((wrap64 ((wrap64 (x27_1 + (wrap64 (IntKind.u64.wrap (Int.tdiv a1 32))))) + 1)) : Int).toNat (((shl .u64 (IntKind.u64.wrap (rd l0 x27_1)) (ji12)) / 4294967296) % 4294967296)) l0 (l0.length : Int) (wrap64 (x27_1 + 1))) else (none)) else (none)) else (none)) else (none)) else (none)) = some r := by first | (rw [hji12] at H; exact H) | (simp only [hji12] at H ⊢; exact H)
                  by_cases c13 : 0 ≤ (ji12)
                  · rw [if_pos c13] at H
                    have c13b0 := eq_true c13
                    have c13b1 : decide (0 ≤ (ji12)) = true := decide_eq_true c13
                    clear c13
                    obtain ⟨ji14, hji14⟩ : ∃ j_ : Int, (shl .u64 (IntKind.u64.wrap (rd l0 x27_1)) (ji12)) = j_ := ⟨_, rfl⟩
                    replace H : (if 0 ≤ (wrap64 (x27_1 + (wrap64 (IntKind.u64.wrap (Int.tdiv a1 32))))) then (if (wrap64 (x27_1 + (wrap64 (IntKind.u64.wrap (Int.tdiv a1 32))))) < (x7_1.length : Int) then (if 0 ≤ (wrap64 ((wrap64 (x27_1 + (wrap64 (IntKind.u64.wrap (Int.tdiv a1 32))))) + 1)) then (if (wrap64 ((wrap64 (x27_1 + (wrap64 (IntKind.u64.wrap (Int.tdiv a1 32))))) + 1)) < (x7_1.length : Int) then (smallbig_nat_lsh.l0 k1 (wrap64 (IntKind.u64.wrap (Int.tdiv a1 32))) (ji12) ((x7_1.set ((wrap64 (x27_1 + (wrap64 (IntKind.u64.wrap (Int.tdiv a1 32))))) : Int).toNat (Go.bits .or .u32 (rd x7_1 (wrap64 (x27_1 + (wrap64 (IntKind.u64.wrap (Int.tdiv a1 32)))))) ((ji14) % 4294967296))).set ((wrap64 ((wrap64 (x27_1 + (wrap64 (IntKind.u64.wrap (Int.tdiv a1 32))))) + 1)) : Int).toNat (((ji14) / 4294967296) % 4294967296)) l0 (l0.length : Int) (wrap64 (x27_1 + 1))) else (none)) else (none)) else (none)) else (none)) = some r := by first | (rw [hji14] at H; exact H) | (simp only [hji14] at H ⊢; exact H)
                    have hji14_ : (IntKind.u64.wrap ((IntKind.u64.wrap (rd l0 x27_1)) * 2 ^ min (ji12).toNat 64)) = ji14 := hji14
                    have hji14z : (ji12) ≤ 64 → (IntKind.u64.wrap ((IntKind.u64.wrap (rd l0 x27_1)) * 2 ^ (ji12).toNat)) = ji14 := shl_small hji14
                    obtain ⟨ji15, hji15⟩ : ∃ j_ : Int, (wrap64 (x27_1 + (wrap64 (IntKind.u64.wrap (Int.tdiv a1 32))))) = j_ := ⟨_, rfl⟩
                    replace H : (if 0 ≤ (ji15) then (if (ji15) < (x7_1.length : Int) then (if 0 ≤ (wrap64 ((ji15) + 1)) then (if (wrap64 ((ji15) + 1)) < (x7_1.length : Int) then (smallbig_nat_lsh.l0 k1 (wrap64 (IntKind.u64.wrap (Int.tdiv a1 32))) (ji12) ((x7_1.set ((ji15) : Int).toNat (Go.bits .or .u32 (rd x7_1 (ji15)) ((ji14) % 4294967296))).set ((wrap64 ((ji15) + 1)) : Int).toNat (((ji14) / 4294967296) % 4294967296)) l0 (l0.length : Int) (wrap64 (x27_1 + 1))) else (none)) else (none)) else (none)) else (none)) = some r := by first | (rw [hji15] at H; exact H) | (simp only [hji15] at H ⊢; exact H)
                    have hji15w : (IntKind.i64.wrap (x27_1 + (wrap64 (IntKind.u64.wrap (Int.tdiv a1 32))))) = ji15 := (i64_w _).trans hji15
                    by_cases c16 : 0 ≤ (ji15)
                    · rw [if_pos c16] at H
                      have c16b0 : decide (0 ≤ (ji15)) = true := decide_eq_true c16
                      clear c16
                      by_cases c17 : (ji15) < (x7_1.length : Int)
                      · rw [if_pos c17] at H
                        have c17b0 : decide ((ji15) < (x7_1.length : Int)) = true := decide_eq_true c17
                        clear c17
                        obtain ⟨y169, hy169⟩ : ∃ y_ : List Int, y_ = (x7_1.set ((ji15) : Int).toNat (Go.bits .or .u32 (rd x7_1 (ji15)) ((ji14) % 4294967296))) := ⟨_, rfl⟩
                        replace H : (if 0 ≤ (wrap64 ((ji15) + 1)) then (if (wrap64 ((ji15) + 1)) < (x7_1.length : Int) then (smallbig_nat_lsh.l0 k1 (wrap64 (IntKind.u64.wrap (Int.tdiv a1 32))) (ji12) (y169.set ((wrap64 ((ji15) + 1)) : Int).toNat (((ji14) / 4294967296) % 4294967296)) l0 (l0.length : Int) (wrap64 (x27_1 + 1))) else (none)) else (none)) = some r := by first | (rw [hy169]; with_reducible exact H) | (have H2_ := (Option.bind_some _ _).symm.trans H; rw [hy169]; with_reducible exact H2_) | (have H2_ := (Option.bind_some _ _).symm.trans H; with_reducible exact H2_) | with_reducible exact H | (rw [hy169]; exact H) | exact H
                        have Ny169 := Aside0.mk hy169
                        clear hy169
                        obtain ⟨ji19, hji19⟩ : ∃ j_ : Int, (wrap64 ((ji15) + 1)) = j_ := ⟨_, rfl⟩
                        replace H : (if 0 ≤ (ji19) then (if (ji19) < (x7_1.length : Int) then (smallbig_nat_lsh.l0 k1 (wrap64 (IntKind.u64.wrap (Int.tdiv a1 32))) (ji12) (y169.set ((ji19) : Int).toNat (((ji14) / 4294967296) % 4294967296)) l0 (l0.length : Int) (wrap64 (x27_1 + 1))) else (none)) else (none)) = some r := by first | (rw [hji19] at H; exact H) | (simp only [hji19] at H ⊢; exact H)
                        have hji19w : (IntKind.i64.wrap ((ji15) + 1)) = ji19 := (i64_w _).trans hji19
                        by_cases c20 : 0 ≤ (ji19)
                        · rw [if_pos c20] at H
                          have c20b0 : decide (0 ≤ (ji19)) = true := decide_eq_true c20
                          clear c20
                          by_cases c21 : (ji19) < (x7_1.length : Int)
                          · rw [if_pos c21] at H
                            have c21b0 : decide ((ji19) < (x7_1.length : Int)) = true := decide_eq_true c21
                            clear c21
                            obtain ⟨y170, hy170⟩ : ∃ y_ : List Int, y_ = (y169.set ((ji19) : Int).toNat (((ji14) / 4294967296) % 4294967296)) := ⟨_, rfl⟩
                            replace H : (smallbig_nat_lsh.l0 k1 (wrap64 (IntKind.u64.wrap (Int.tdiv a1 32))) (ji12) y170 l0 (l0.length : Int) (wrap64 (x27_1 + 1))) = some r := by first | (rw [hy170]; with_reducible exact H) | (have H2_ := (Option.bind_some _ _).symm.trans H; rw [hy170]; with_reducible exact H2_) | (have H2_ := (Option.bind_some _ _).symm.trans H; with_reducible exact H2_) | with_reducible exact H | (rw [hy170]; exact H) | exact H
                            have Ny170 := Aside0.mk hy170
                            clear hy170
                            have H' := Aside0.mk H
                            clear H
                            have p167 : 0 ≤ (x27_1 : Int) := of_decide_eq_true (by first | (with_reducible assumption) | assumption)
                            have q167 : x27_1 < (l0.length : Int) := of_decide_eq_true (by first | (with_reducible assumption) | assumption)
                            obtain ⟨ad167, e167, hx167_0⟩ := Kd.at_int HR0.out x27_1 p167 q167
                            cases e167
                            replace hx167_0 := (HB.out.cell (World.block_lt_of_cell? w _ hx167_0)).trans hx167_0
                            replace p167 := eq_true p167
                            replace q167 := eq_true q167
                            obtain ⟨Ao23, co23, eo23⟩ := Kd.R_slice HO_7.out
                            subst eo23
                            have p168 : 0 ≤ ((ji15) : Int) := of_decide_eq_true (by first | (with_reducible assumption) | assumption)
                            have q168 : (ji15) < (x7_1.length : Int) := of_decide_eq_true (by first | (with_reducible assumption) | assumption)
                            obtain ⟨ad168, e168, hx168_0⟩ := Kd.at_int (Kd.R_reads' HO_7.out).2.2 (ji15) p168 q168
                            cases e168
                            replace p168 := eq_true p168
                            replace q168 := eq_true q168
                            have p18 : 0 ≤ ((ji15) : Int) := of_decide_eq_true (by first | (with_reducible assumption) | assumption)
                            have q18 : ((ji15) : Int) < ((x7_1.length : Int) : Int) := of_decide_eq_true (by first | (with_reducible assumption) | assumption)
                            obtain ⟨go18, co18, eo18, gb18, gl18, cl18, HG18⟩ := Kd.R_form HO_7.out (by omega)
                            (first | cases eo18 | (injection eo18 with ea_ en_ ec_; (first | subst ea_ | (injection ea_ with ea_; subst ea_)); subst ec_; clear en_))
                            have GB18 := Aside0.mk gb18
                            have GG18 := Aside0.mk HG18
                            clear gb18 gl18 HG18
                            (first | simp only [add_plain] at hx168_0 | skip)
                            obtain ⟨hx18_0, hf18_0⟩ := Kd.R_celln 0 HO_7.out ((ji15) : Int) p18 q18
                            replace p18 := eq_true p18
                            replace q18 := eq_true q18
                            have HP24 := Kd.R_putg HO_7.out ((ji15) : Int) (Go.bits .or .u32 (rd x7_1 (ji15)) ((ji14) % 4294967296))
                            go_wp2_with (first | ((with_reducible refine gate_store (t := 84) (p := 45) rfl ?_); refine store_event (t := 84) (p := 45) (v := ?vo_w25) (w1 := (wr.setCell ⟨go18, ((ji15) : Int).toNat, none⟩ (.int .u32 (Go.bits .or .u32 (rd x7_1 (ji15)) ((ji14) % 4294967296))))) ?hg ?ho ?hn ?hr ?_; (case ho => rfl); (case hg => rfl); (case hn => rfl); (case hr => first | (go_simp; done) | (go_simp; rfl)); intro w25 hw; have hg : wr.grownBy w25 (some go18) := (by rw [hw]; exact HP24.2); have hp_ : Kd.R (Kd.int .u32) 84 w25 w.heap.size (fun k_ => (w.heap.size ≤ k_)) (.slice (some ⟨go18, 0, none⟩) x7_1.length co23) y169 := (by rw [hw, Ny169.out]; exact HP24.1); clear HP24; have n0_ := Aside0.mk (hp_); have n1_ := Aside0.mk ((by rw [hw]; exact below_set (HB.out) GB18.out : Below w.heap.size w w25)); clear HO_7; clear HB; have HO_7 := n0_; have HB := n1_; clear n0_ n1_; clear hg hw hp_; have p22 : 0 ≤ ((ji19) : Int) := of_decide_eq_true (by first | (with_reducible assumption) | assumption); have q22 : ((ji19) : Int) < ((x7_1.length : Int) : Int) := of_decide_eq_true (by first | (with_reducible assumption) | assumption); obtain ⟨hx22_0, hf22_0⟩ := Kd.R_celln 0 HO_7.out ((ji19) : Int) p22 q22; replace p22 := eq_true p22; replace q22 := eq_true q22; obtain ⟨hy26_, hz26_⟩ := Kd.R_celln 0 HO_7.out ((ji19) : Int) (of_decide_eq_true (by first | (with_reducible assumption) | assumption)) (of_decide_eq_true (by first | (with_reducible assumption) | assumption)); have HP26 := Kd.R_putg HO_7.out ((ji19) : Int) (((ji14) / 4294967296) % 4294967296)) | ((with_reducible refine gate_store (t := 84) (p := 54) rfl ?_); refine store_event (t := 84) (p := 54) (v := ?vo_w27) (w1 := (w25.setCell ⟨go18, ((ji19) : Int).toNat, none⟩ (.int .u32 (((ji14) / 4294967296) % 4294967296)))) ?hg ?ho ?hn ?hr ?_; (case ho => rfl); (case hg => rfl); (case hn => rfl); (case hr => first | (go_simp; done) | (go_simp; rfl)); intro w27 hw; have hg : w25.grownBy w27 (some go18) := (by rw [hw]; exact HP26.2); have hp_ : Kd.R (Kd.int .u32) 84 w27 w.heap.size (fun k_ => (w.heap.size ≤ k_)) (.slice (some ⟨go18, 0, none⟩) x7_1.length co23) y170 := (by rw [hw, Ny170.out]; exact HP26.1); clear HP26; have n0_ := Aside0.mk (hp_); have n1_ := Aside0.mk ((by rw [hw]; exact below_set (HB.out) GB18.out : Below w.heap.size w w27)); clear HO_7; clear HB; have HO_7 := n0_; have HB := n1_; clear n0_ n1_; clear hg hw hp_))
                            go_roundg k1
                            case measure => have := HK1.out; omega
                            case rel => exact ⟨(y170), (wrap64 (x27_1 + 1)), (by first | rfl | (simp; done) | (simp [*]; done)), (by rw [hji12]; exact H'), ⟨by have := HK1.out; omega⟩, ⟨by (with_reducible repeat (first | apply Kd.R_alloc | apply Kd.R_drewN | apply Kd.R_drew)); exact HO_7.out⟩, ⟨by repeat (first | (with_reducible first | exact HB.out | apply below_alloc | apply pw_below_drewN | apply below_drew1) | exact HB.out)⟩⟩
                          · rw [if_neg c21] at H
                            exact absurd H (by simp)
                        · rw [if_neg c20] at H
                          exact absurd H (by simp)
                      · rw [if_neg c17] at H
                        exact absurd H (by simp)
                    · rw [if_neg c16] at H
                      exact absurd H (by simp)
                  · rw [if_neg c13] at H
                    exact absurd H (by simp)
                · rw [if_neg c11] at H
                  exact absurd H (by simp)
              · rw [if_neg c10] at H
                exact absurd H (by simp)
            · rw [if_neg c9] at H
              have c9b0 : decide (x27_1 < (l0.length : Int)) = false := decide_eq_false c9
              clear c9
              replace H := Option.bind_eq_some_iff.mp H
              obtain ⟨t171, A280, H⟩ := H
              replace H : (some t171) = some r := H
              have A28 := Aside0.mk A280
              clear A280
              obtain rfl := Option.some.inj H
              obtain ⟨Ao29, co29, eo29⟩ := Kd.R_slice HO_7.out
              subst eo29
              go_wp2_with (first | ((with_reducible refine gate_callee (f := 57) rfl ?_); refine goesL_ (some 57) rfl rfl Tryd.func57 (by kernel_rfl) rfl #[.slice Ao29 x7_1.length co29] rfl (by (try simp only [List.map_toArray, List.map_cons, List.map_nil]); first | done | rfl | (simp only [List.length_drop, List.length_take]; rfl)) ?_; (with_reducible refine (smallbig_nat_norm.calls k1 (fun k_ => some k_ = (.slice Ao29 x7_1.length co29 : Value).ownBlock) _ _ x7_1 t171 _ ?side1 A28.out).mono ?_); (case side1 => exact Kd.R_V (Kd.R_tight rfl (HO_7.out))); rintro e w30 ⟨v172, rfl, ho0, hb⟩; refine ⟨_, rfl, ?_⟩; have n0_ := Aside0.mk (Kd.R_below (by (with_reducible repeat (first | apply Kd.R_alloc | apply Kd.R_drewN | apply Kd.R_drew)); exact HO_7.out) hb); have n1_ := Aside0.mk (Kd.V_lower (Kd.V_mono (ok' := fun k_ => (w.heap.size ≤ k_)) ho0 (fun k_ hk_ => Or.elim hk_ (fun hs_ => ((HO_7.out).1 k_ hs_.symm)) (fun hn_ => (Nat.le_trans (below_size (by repeat (first | (with_reducible first | exact HB.out | apply below_alloc | apply pw_below_drewN | apply below_drew1) | exact HB.out))) hn_)))) (below_size (by repeat (first | (with_reducible first | exact HB.out | apply below_alloc | apply pw_below_drewN | apply below_drew1) | exact HB.out)))); have n2_ := Aside0.mk (below_step (by repeat (first | (with_reducible first | exact HB.out | apply below_alloc | apply pw_below_drewN | apply below_drew1) | exact HB.out)) hb); clear HO_7; clear HB; have HO_7 := n0_; have HO173 := n1_; have HB := n2_; clear n0_ n1_ n2_; (try clear hb); (try clear hb2); (try clear hk); (try clear hi); (try clear ho0)))
              go_ret
              exact ⟨_, by first | rfl | (simp [errW_none, errW_some] <;> rfl) | (simp only [← hji4]; first | rfl | (simp [errW_none, errW_some] <;> rfl)) | (simp [*, errW_none, errW_some] <;> rfl), by (with_reducible repeat (first | apply Kd.V_alloc | apply Kd.V_drewN | apply Kd.V_drew)); exact HO173.out, by repeat (first | (with_reducible first | exact HB.out | apply below_alloc | apply pw_below_drewN | apply below_drew1) | exact HB.out)⟩
      · rw [if_neg c6] at H
        exact absurd H (by simp)
    · rw [if_neg c5] at H
      exact absurd H (by simp)

-- NOT PRINTED: function 27 (smallbig_Int_Lsh)

-- NOT PRINTED: function 58 (smallbig_Int_twos)

-- NOT PRINTED: function 59 (smallbig_Int_setTwos)

-- NOT PRINTED: function 43 (smallbig_Int_byBits)

-- NOT PRINTED: function 28 (smallbig_Int_Or)

-- NOT PRINTED: function 30 (strings_Builder_WriteString)

-- NOT PRINTED: function 31 (smallbig_Int_Sub)

/-! ### smallbig_nat_divW: function 74 -/
def smallbig_nat_divW.l0 : Nat → List Int → Int → List Int → Int → Int → Option (List Int × Int)
  | 0, _, _, _, _, _ => none
  | k + 1, x0, x1, x6, x7, x8 => if x8 ≥ 0 then (if 0 ≤ x8 then (if x8 < (x0.length : Int) then (if (IntKind.u64.wrap (x1)) = 0 then (none) else (if x8 < (x6.length : Int) then (smallbig_nat_divW.l0 k x0 x1 (x6.set (x8 : Int).toNat ((IntKind.u64.wrap (Int.tdiv (Go.bits .or .u64 (IntKind.u64.wrap (x7 * 4294967296)) (IntKind.u64.wrap (rd x0 x8))) (IntKind.u64.wrap (x1)))) % 4294967296)) (Int.tmod (Go.bits .or .u64 (IntKind.u64.wrap (x7 * 4294967296)) (IntKind.u64.wrap (rd x0 x8))) (IntKind.u64.wrap (x1))) (wrap64 (x8 - 1))) else (none))) else (none)) else (none)) else ((smallbig_nat_norm.f k x6).bind fun t182 => (some (t182, (x7) % 4294967296)))
def smallbig_nat_divW.f (k : Nat) (l0 : List Int) (a1 : Int) : Option (List Int × Int) := if 0 ≤ (l0.length : Int) then (if ((l0.length : Int) : Int).toNat ≤ 70368744177664 then (smallbig_nat_divW.l0 k l0 a1 (List.replicate ((l0.length : Int) : Int).toNat 0) 0 (wrap64 ((l0.length : Int) - 1))) else (none)) else (none)
theorem smallbig_nat_divW.mono_l : ∀ k, (∀ y0 y1 y2 y3 y4, LeO (smallbig_nat_divW.l0 k y0 y1 y2 y3 y4) (smallbig_nat_divW.l0 (k + 1) y0 y1 y2 y3 y4))
  | 0 => fun _ _ _ _ _ r h => by simp [smallbig_nat_divW.l0] at h
  | k + 1 => by
    have ih0 := smallbig_nat_divW.mono_l k
    · intro y0 y1 y2 y3 y4
      unfold smallbig_nat_divW.l0
      repeat' first
      | (with_reducible exact ih0 _ _ _ _ _)
      | (with_reducible exact smallbig_nat_norm.mono _ _)
      | (with_reducible exact LeO.refl _)
      | (with_reducible exact LeO.none _)
      | (with_reducible refine LeO.ite ?_ ?_)
      | (with_reducible refine LeO.bind ?_ (fun _ => ?_))
      | exact ih0 _ _ _ _ _
      | exact smallbig_nat_norm.mono _ _
      | exact LeO.none _
      | refine LeO.ite ?_ ?_
      | refine LeO.bind ?_ (fun _ => ?_)
theorem smallbig_nat_divW.mono : ∀ a0 a1 k, LeO (smallbig_nat_divW.f k a0 a1) (smallbig_nat_divW.f (k + 1) a0 a1) := by
  intro a0 a1 k
  have ih0 := smallbig_nat_divW.mono_l k
  unfold smallbig_nat_divW.f
  repeat' first
      | (with_reducible exact ih0 _ _ _ _ _)
      | (with_reducible exact smallbig_nat_norm.mono _ _)
      | (with_reducible exact LeO.refl _)
      | (with_reducible exact LeO.none _)
      | (with_reducible refine LeO.ite ?_ ?_)
      | (with_reducible refine LeO.bind ?_ (fun _ => ?_))
      | exact ih0 _ _ _ _ _
      | exact smallbig_nat_norm.mono _ _
      | exact LeO.none _
      | refine LeO.ite ?_ ?_
      | refine LeO.bind ?_ (fun _ => ?_)
set_option maxHeartbeats 8000000 in
set_option maxRecDepth 100000 in
theorem smallbig_nat_divW.calls (k : Nat) (A0 : Option Addr) (c0 : Nat) (l0 : List Int) (a1 : Int) (r1 : List Int) (r2 : Int) (w : World) (hr0 : Kd.C (Kd.int .u32) w A0 l0.length l0) (hc0 : l0.length ≤ c0) (h : smallbig_nat_divW.f k l0 a1 = some (r1, r2)) :
    Calls Tryd.prog 74 #[.slice A0 l0.length c0, .int .u32 a1] w fun e w' => ∃ v0_ : Value, e = .returned (.tuple #[v0_, .int .u32 r2]) ∧ Kd.V (Kd.int .u32) 84 w' w.heap.size (fun k_ => (w.heap.size ≤ k_)) v0_ r1 ∧ Below w.heap.size w w' := by
  have HR0 := Aside0.mk hr0
  have HC0 := Aside0.mk hc0
  clear hr0 hc0
  have HB := Aside0.mk (Below.refl w.heap.size w)
  have H : (if 0 ≤ (l0.length : Int) then (if ((l0.length : Int) : Int).toNat ≤ 70368744177664 then (smallbig_nat_divW.l0 k l0 a1 (List.replicate ((l0.length : Int) : Int).toNat 0) 0 (wrap64 ((l0.length : Int) - 1))) else (none)) else (none)) = some (r1, r2) := h
  clear h
  by_cases c3 : 0 ≤ (l0.length : Int)
  · rw [if_pos c3] at H
    have c3b0 := eq_true c3
    have c3b1 : decide (0 ≤ (l0.length : Int)) = true := decide_eq_true c3
    clear c3
    by_cases c4 : ((l0.length : Int) : Int).toNat ≤ 70368744177664
    · rw [if_pos c4] at H
      have c4b0 := eq_true c4
      have c4b1 : decide (((l0.length : Int) : Int).toNat ≤ 70368744177664) = true := decide_eq_true c4
      clear c4
      obtain ⟨y177, hy177⟩ : ∃ y_ : List Int, y_ = (List.replicate ((l0.length : Int) : Int).toNat 0) := ⟨_, rfl⟩
      replace H : (smallbig_nat_divW.l0 k l0 a1 y177 0 (wrap64 ((l0.length : Int) - 1))) = some (r1, r2) := by first | (rw [hy177]; with_reducible exact H) | (have H2_ := (Option.bind_some _ _).symm.trans H; rw [hy177]; with_reducible exact H2_) | (have H2_ := (Option.bind_some _ _).symm.trans H; with_reducible exact H2_) | with_reducible exact H | (rw [hy177]; exact H) | exact H
      have Ny177 := Aside0.mk hy177
      clear hy177
      have H' := Aside0.mk H
      clear H
      go_enter Tryd.func74, Tryd.ntmps74
      go_wp2_with (first | ((with_reducible refine gate_dst (N := 11) rfl ?_); refine Kd.R_make (Kd.int .u32) _ 84 rfl (N := 11) rfl 64 _ _ rfl (l0.length : Int) rfl rfl Tryd.underlying64 (.int .u32 0) 4 info84 rfl (by decide) (by omega) 0 (ok := fun _ => True) (okp := fun _ => True) rfl (fun _ hk => hk) trivial (of_decide_eq_true (by first | (with_reducible assumption) | assumption)) (Nat.le_trans (Nat.mul_le_mul_right _ (of_decide_eq_true (by first | (with_reducible assumption) | assumption) : (l0.length : Int).toNat ≤ 70368744177664)) (by omega)) (Below.refl _ _) (Nat.le_refl _) ?_; intro v178 w5 ho6 hb hg_ hnew_; clear hg_ hnew_; (first | rw [← Ny177.out] at ho6 | (simp only [Int.reduceToNat] at ho6; rw [← Ny177.out] at ho6)); have n0_ := Aside0.mk (Kd.R_lower (Kd.R_newM (M := fun k_ => (w.heap.size ≤ k_)) ho6 (below_size (by repeat (first | (with_reducible first | exact HB.out | apply below_alloc | apply pw_below_drewN | apply below_drew1) | exact HB.out))) (fun k_ h_ => h_)) (below_size (by repeat (first | (with_reducible first | exact HB.out | apply below_alloc | apply pw_below_drewN | apply below_drew1) | exact HB.out)))); have n1_ := Aside0.mk (below_step (by repeat (first | (with_reducible first | exact HB.out | apply below_alloc | apply pw_below_drewN | apply below_drew1) | exact HB.out)) hb); clear HB; have HO179 := n0_; have HB := n1_; clear n0_ n1_; clear hb ho6))
      go_loopg [7, 8] k (fun kq v7 v8 w' => ∃ (x6_1 : List Int) (x7_1 : Int) (x8_1 : Int), v7 = .int .u64 x7_1 ∧ v8 = .int .i64 x8_1 ∧ Aside0 (smallbig_nat_divW.l0 kq l0 a1 x6_1 x7_1 x8_1 = some (r1, r2)) ∧ Aside0 (kq ≤ k) ∧ Aside0 (Kd.R (Kd.int .u32) 84 w' w.heap.size (fun k_ => (w.heap.size ≤ k_)) v178 x6_1) ∧ Aside0 (Below w.heap.size w w'))
      case atStart => exact ⟨(y177), (0), (wrap64 ((l0.length : Int) - 1)), (by first | rfl | (simp; done) | (simp [*]; done)), (by first | rfl | (simp; done) | (simp [*]; done)), H', ⟨Nat.le_refl _⟩, ⟨by (with_reducible repeat (first | apply Kd.R_alloc | apply Kd.R_drewN | apply Kd.R_drew)); exact Kd.R_mono HO179.out (fun _ hk => hk.1)⟩, ⟨by repeat (first | (with_reducible first | exact HB.out | apply below_alloc | apply pw_below_drewN | apply below_drew1) | exact HB.out)⟩⟩
      case round =>
        clear H'
        try clear p2
        try clear c3
        try clear c3b0
        try clear c3b1
        try clear c4
        try clear c4b0
        try clear c4b1
        try clear p6
        obtain ⟨x6_1, x7_1, x8_1, rfl, rfl, HA, HK1, HO_6, HB⟩ := hrel
        cases gk with
        | zero => exact absurd HA.out (by simp [smallbig_nat_divW.l0])
        | succ k1 =>
          have H := HA.out
          clear HA
          simp only [smallbig_nat_divW.l0] at H
          by_cases c7 : x8_1 ≥ 0
          · rw [if_pos c7] at H
            have c7b0 : decide (0 ≤ x8_1) = true := decide_eq_true c7
            clear c7
            by_cases c8 : 0 ≤ x8_1
            · rw [if_pos c8] at H
              have c8b0 : decide (0 ≤ x8_1) = true := decide_eq_true c8
              clear c8
              by_cases c9 : x8_1 < (l0.length : Int)
              · rw [if_pos c9] at H
                have c9b0 : decide (x8_1 < (l0.length : Int)) = true := decide_eq_true c9
                clear c9
                by_cases c10 : (IntKind.u64.wrap (a1)) = 0
                · rw [if_pos c10] at H
                  exact absurd H (by simp)
                · rw [if_neg c10] at H
                  have c10b0 : ((IntKind.u64.wrap (a1)) == 0) = false := beq_eq_false_iff_ne.mpr c10
                  have c10b1 : ((IntKind.u64.wrap (a1)) != 0) = true := bne_iff_ne.mpr c10
                  by_cases c11 : x8_1 < (x6_1.length : Int)
                  · rw [if_pos c11] at H
                    have c11b0 : decide (x8_1 < (x6_1.length : Int)) = true := decide_eq_true c11
                    clear c11
                    obtain ⟨y181, hy181⟩ : ∃ y_ : List Int, y_ = (x6_1.set (x8_1 : Int).toNat ((IntKind.u64.wrap (Int.tdiv (Go.bits .or .u64 (IntKind.u64.wrap (x7_1 * 4294967296)) (IntKind.u64.wrap (rd l0 x8_1))) (IntKind.u64.wrap (a1)))) % 4294967296)) := ⟨_, rfl⟩
                    replace H : (smallbig_nat_divW.l0 k1 l0 a1 y181 (Int.tmod (Go.bits .or .u64 (IntKind.u64.wrap (x7_1 * 4294967296)) (IntKind.u64.wrap (rd l0 x8_1))) (IntKind.u64.wrap (a1))) (wrap64 (x8_1 - 1))) = some (r1, r2) := by first | (rw [hy181]; with_reducible exact H) | (have H2_ := (Option.bind_some _ _).symm.trans H; rw [hy181]; with_reducible exact H2_) | (have H2_ := (Option.bind_some _ _).symm.trans H; with_reducible exact H2_) | with_reducible exact H | (rw [hy181]; exact H) | exact H
                    have Ny181 := Aside0.mk hy181
                    clear hy181
                    have H' := Aside0.mk H
                    clear H
                    have p180 : 0 ≤ (x8_1 : Int) := of_decide_eq_true (by first | (with_reducible assumption) | assumption)
                    have q180 : x8_1 < (l0.length : Int) := of_decide_eq_true (by first | (with_reducible assumption) | assumption)
                    obtain ⟨ad180, e180, hx180_0⟩ := Kd.at_int HR0.out x8_1 p180 q180
                    cases e180
                    replace hx180_0 := (HB.out.cell (World.block_lt_of_cell? w _ hx180_0)).trans hx180_0
                    replace p180 := eq_true p180
                    replace q180 := eq_true q180
                    have p12 : 0 ≤ (x8_1 : Int) := of_decide_eq_true (by first | (with_reducible assumption) | assumption)
                    have q12 : (x8_1 : Int) < ((x6_1.length : Int) : Int) := of_decide_eq_true (by first | (with_reducible assumption) | assumption)
                    obtain ⟨go12, co12, eo12, gb12, gl12, cl12, HG12⟩ := Kd.R_form HO_6.out (by omega)
                    (first | cases eo12 | (injection eo12 with ea_ en_ ec_; (first | subst ea_ | (injection ea_ with ea_; subst ea_)); subst ec_; clear en_))
                    have GB12 := Aside0.mk gb12
                    have GG12 := Aside0.mk HG12
                    clear gb12 gl12 HG12
                    obtain ⟨hx12_0, hf12_0⟩ := Kd.R_celln 0 HO_6.out (x8_1 : Int) p12 q12
                    replace p12 := eq_true p12
                    replace q12 := eq_true q12
                    have HP13 := Kd.R_putg HO_6.out (x8_1 : Int) ((IntKind.u64.wrap (Int.tdiv (Go.bits .or .u64 (IntKind.u64.wrap (x7_1 * 4294967296)) (IntKind.u64.wrap (rd l0 x8_1))) (IntKind.u64.wrap (a1)))) % 4294967296)
                    go_wp2_with (first | ((with_reducible refine gate_store (t := 84) (p := 34) rfl ?_); refine store_event (t := 84) (p := 34) (v := ?vo_w14) (w1 := (wr.setCell ⟨go12, (x8_1 : Int).toNat, none⟩ (.int .u32 ((IntKind.u64.wrap (Int.tdiv (Go.bits .or .u64 (IntKind.u64.wrap (x7_1 * 4294967296)) (IntKind.u64.wrap (rd l0 x8_1))) (IntKind.u64.wrap (a1)))) % 4294967296)))) ?hg ?ho ?hn ?hr ?_; (case ho => rfl); (case hg => rfl); (case hn => rfl); (case hr => first | (go_simp; done) | (go_simp; rfl)); intro w14 hw; have hg : wr.grownBy w14 (some go12) := (by rw [hw]; exact HP13.2); have hp_ : Kd.R (Kd.int .u32) 84 w14 w.heap.size (fun k_ => (w.heap.size ≤ k_)) (.slice (some ⟨go12, 0, none⟩) x6_1.length co12) y181 := (by rw [hw, Ny181.out]; exact HP13.1); clear HP13; have n0_ := Aside0.mk (hp_); have n1_ := Aside0.mk ((by rw [hw]; exact below_set (HB.out) GB12.out : Below w.heap.size w w14)); clear HO_6; clear HB; have HO_6 := n0_; have HB := n1_; clear n0_ n1_; clear hg hw hp_))
                    go_roundg k1
                    case measure => have := HK1.out; omega
                    case rel => exact ⟨(y181), (Int.tmod (Go.bits .or .u64 (IntKind.u64.wrap (x7_1 * 4294967296)) (IntKind.u64.wrap (rd l0 x8_1))) (IntKind.u64.wrap (a1))), (wrap64 (x8_1 - 1)), (by first | rfl | (simp; done) | (simp [*]; done)), (by first | rfl | (simp; done) | (simp [*]; done)), H', ⟨by have := HK1.out; omega⟩, ⟨by (with_reducible repeat (first | apply Kd.R_alloc | apply Kd.R_drewN | apply Kd.R_drew)); exact HO_6.out⟩, ⟨by repeat (first | (with_reducible first | exact HB.out | apply below_alloc | apply pw_below_drewN | apply below_drew1) | exact HB.out)⟩⟩
                  · rw [if_neg c11] at H
                    exact absurd H (by simp)
              · rw [if_neg c9] at H
                exact absurd H (by simp)
            · rw [if_neg c8] at H
              exact absurd H (by simp)
          · rw [if_neg c7] at H
            have c7b0 : decide (0 ≤ x8_1) = false := decide_eq_false c7
            clear c7
            replace H := Option.bind_eq_some_iff.mp H
            obtain ⟨t182, A150, H⟩ := H
            replace H : (some (t182, (x7_1) % 4294967296)) = some (r1, r2) := H
            have A15 := Aside0.mk A150
            clear A150
            simp only [Option.some.injEq, Prod.mk.injEq] at H
            obtain ⟨rfl, rfl⟩ := H
            obtain ⟨Ao16, co16, eo16⟩ := Kd.R_slice HO_6.out
            subst eo16
            go_wp2_with (first | ((with_reducible refine gate_callee (f := 57) rfl ?_); refine goesL_ (some 40) rfl rfl Tryd.func57 (by kernel_rfl) rfl #[.slice Ao16 x6_1.length co16] rfl (by (try simp only [List.map_toArray, List.map_cons, List.map_nil]); first | done | rfl | (simp only [List.length_drop, List.length_take]; rfl)) ?_; (with_reducible refine (smallbig_nat_norm.calls k1 (fun k_ => some k_ = (.slice Ao16 x6_1.length co16 : Value).ownBlock) _ _ x6_1 t182 _ ?side1 A15.out).mono ?_); (case side1 => exact Kd.R_V (Kd.R_tight rfl (HO_6.out))); rintro e w17 ⟨v183, rfl, ho0, hb⟩; refine ⟨_, rfl, ?_⟩; have n0_ := Aside0.mk (Kd.R_below (by (with_reducible repeat (first | apply Kd.R_alloc | apply Kd.R_drewN | apply Kd.R_drew)); exact HO_6.out) hb); have n1_ := Aside0.mk (Kd.V_lower (Kd.V_mono (ok' := fun k_ => (w.heap.size ≤ k_)) ho0 (fun k_ hk_ => Or.elim hk_ (fun hs_ => ((HO_6.out).1 k_ hs_.symm)) (fun hn_ => (Nat.le_trans (below_size (by repeat (first | (with_reducible first | exact HB.out | apply below_alloc | apply pw_below_drewN | apply below_drew1) | exact HB.out))) hn_)))) (below_size (by repeat (first | (with_reducible first | exact HB.out | apply below_alloc | apply pw_below_drewN | apply below_drew1) | exact HB.out)))); have n2_ := Aside0.mk (below_step (by repeat (first | (with_reducible first | exact HB.out | apply below_alloc | apply pw_below_drewN | apply below_drew1) | exact HB.out)) hb); clear HO_6; clear HB; have HO_6 := n0_; have HO184 := n1_; have HB := n2_; clear n0_ n1_ n2_; (try clear hb); (try clear hb2); (try clear hk); (try clear hi); (try clear ho0)))
            go_ret2
            exact ⟨_, by first | rfl | (simp [errW_none, errW_some] <;> rfl) | (simp [*, errW_none, errW_some] <;> rfl), by (with_reducible repeat (first | apply Kd.V_alloc | apply Kd.V_drewN | apply Kd.V_drew)); exact HO184.out, by repeat (first | (with_reducible first | exact HB.out | apply below_alloc | apply pw_below_drewN | apply below_drew1) | exact HB.out)⟩
    · rw [if_neg c4] at H
      exact absurd H (by simp)
  · rw [if_neg c3] at H
    exact absurd H (by simp)

-- NOT PRINTED: function 63 (smallbig_nat_text)

-- NOT PRINTED: function 47 (smallbig_Int_Text)

-- NOT PRINTED: function 32 (smallbig_Int_Append)

-- NOT PRINTED: function 33 (strings_Builder_Write)

end Go.Proofs.YtiopgkdldkkonaaDoor.Pn

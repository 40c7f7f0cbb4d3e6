/-
  PRINTED by print.py out of the translation (function bodies, their contracts), mended by hand where it did not build. Not trusted: Lean checks it.
-/
import Derived.Test.YtiopgkdldkkonaaDoorZP3
namespace Go.Proofs.YtiopgkdldkkonaaDoor.Pn
open Go.RowKit Go.Proofs.YtiopgkdldkkonaaDoorW.PrintWords Go.Proofs.YtiopgkdldkkonaaDoorW.PrintLast Go.Proofs.YtiopgkdldkkonaaDoorW.PrintMore
attribute [local go_sem] max2_int min2_int max_two min_two max_three min_three max_four min_four   -- for this text's walks alone
set_option linter.unusedVariables false
set_option linter.unusedSimpArgs false

/-! ### smallbig_nat_text: function 63 -/
mutual
def smallbig_nat_text.j0 : Nat → List Int → Bool → Int → Bool → Option (List Int)
  | 0, _, _, _, _ => none
  | k + 1, x0, x1, x2, x19 => if x19 = true then (none) else (if (x0.length : Int) = 0 then (some (([48] : List Int))) else (smallbig_nat_text.l0 k x0 x1 x2 (IntKind.u64.wrap (x2)) 1))
def smallbig_nat_text.l0 : Nat → List Int → Bool → Int → Int → Int → Option (List Int)
  | 0, _, _, _, _, _ => none
  | k + 1, x0, x1, x2, x7, x8 => if (IntKind.u64.wrap (x7 * (IntKind.u64.wrap (x2)))) < 4294967296 then (smallbig_nat_text.l0 k x0 x1 x2 (IntKind.u64.wrap (x7 * (IntKind.u64.wrap (x2)))) (wrap64 (x8 + 1))) else (smallbig_nat_text.l1 k x0 x1 x2 x7 x8 ([] : List Int))
def smallbig_nat_text.l1 : Nat → List Int → Bool → Int → Int → Int → List Int → Option (List Int)
  | 0, _, _, _, _, _, _ => none
  | k + 1, x0, x1, x2, x7, x8, x9 => if (x0.length : Int) > 0 then ((smallbig_nat_divW.f k x0 ((x7) % 4294967296)).bind fun bt118 => (smallbig_nat_text.l2 k bt118.1 x1 x2 x7 x8 x9 bt118.2 0)) else (if x1 = true then (if x9.length < 140737488355328 then (smallbig_nat_text.j4 k (x9 ++ [45])) else (none)) else (smallbig_nat_text.j4 k x9))
def smallbig_nat_text.l2 : Nat → List Int → Bool → Int → Int → Int → List Int → Int → Int → Option (List Int)
  | 0, _, _, _, _, _, _, _, _ => none
  | k + 1, x0, x1, x2, x7, x8, x9, x10, x11 => if x11 < x8 then (if (x0.length : Int) > 0 then (if ((x2) % 4294967296) = 0 then (none) else (if 0 ≤ (Int.tmod x10 ((x2) % 4294967296)) then (if (Int.tmod x10 ((x2) % 4294967296)) < 62 then (if x9.length < 140737488355328 then (smallbig_nat_text.l2 k x0 x1 x2 x7 x8 (x9 ++ [bt (⟨#[48, 49, 50, 51, 52, 53, 54, 55, 56, 57, 97, 98, 99, 100, 101, 102, 103, 104, 105, 106, 107, 108, 109, 110, 111, 112, 113, 114, 115, 116, 117, 118, 119, 120, 121, 122, 65, 66, 67, 68, 69, 70, 71, 72, 73, 74, 75, 76, 77, 78, 79, 80, 81, 82, 83, 84, 85, 86, 87, 88, 89, 90]⟩ : ByteArray) (Int.tmod x10 ((x2) % 4294967296))]) ((Int.tdiv x10 ((x2) % 4294967296)) % 4294967296) (wrap64 (x11 + 1))) else (none)) else (none)) else (none))) else (if x10 > 0 then (if ((x2) % 4294967296) = 0 then (none) else (if 0 ≤ (Int.tmod x10 ((x2) % 4294967296)) then (if (Int.tmod x10 ((x2) % 4294967296)) < 62 then (if x9.length < 140737488355328 then (smallbig_nat_text.l2 k x0 x1 x2 x7 x8 (x9 ++ [bt (⟨#[48, 49, 50, 51, 52, 53, 54, 55, 56, 57, 97, 98, 99, 100, 101, 102, 103, 104, 105, 106, 107, 108, 109, 110, 111, 112, 113, 114, 115, 116, 117, 118, 119, 120, 121, 122, 65, 66, 67, 68, 69, 70, 71, 72, 73, 74, 75, 76, 77, 78, 79, 80, 81, 82, 83, 84, 85, 86, 87, 88, 89, 90]⟩ : ByteArray) (Int.tmod x10 ((x2) % 4294967296))]) ((Int.tdiv x10 ((x2) % 4294967296)) % 4294967296) (wrap64 (x11 + 1))) else (none)) else (none)) else (none))) else (smallbig_nat_text.l1 k x0 x1 x2 x7 x8 x9))) else (smallbig_nat_text.l1 k x0 x1 x2 x7 x8 x9)
def smallbig_nat_text.j4 : Nat → List Int → Option (List Int)
  | 0, _ => none
  | k + 1, x9 => smallbig_nat_text.l3 k x9 0 (wrap64 ((x9.length : Int) - 1))
def smallbig_nat_text.l3 : Nat → List Int → Int → Int → Option (List Int)
  | 0, _, _, _ => none
  | k + 1, x9, x12, x13 => if x12 < x13 then (if 0 ≤ x13 then (if x13 < (x9.length : Int) then (if 0 ≤ x12 then (if x12 < (x9.length : Int) then (smallbig_nat_text.l3 k ((x9.set (x12 : Int).toNat (rd x9 x13)).set (x13 : Int).toNat (rd x9 x12)) (wrap64 (x12 + 1)) (wrap64 (x13 - 1))) else (none)) else (none)) else (none)) else (none)) else (some x9)
end
def smallbig_nat_text.f (k : Nat) (l0 : List Int) (a1 : Bool) (a2 : Int) : Option (List Int) := if a2 < 2 then (smallbig_nat_text.j0 k l0 a1 a2 true) else (smallbig_nat_text.j0 k l0 a1 a2 (decide (a2 > 62)))
theorem smallbig_nat_text.mono_l : ∀ k, (∀ y0 y1 y2 y3, LeO (smallbig_nat_text.j0 k y0 y1 y2 y3) (smallbig_nat_text.j0 (k + 1) y0 y1 y2 y3)) ∧ (∀ y0 y1 y2 y3 y4, LeO (smallbig_nat_text.l0 k y0 y1 y2 y3 y4) (smallbig_nat_text.l0 (k + 1) y0 y1 y2 y3 y4)) ∧ (∀ y0 y1 y2 y3 y4 y5, LeO (smallbig_nat_text.l1 k y0 y1 y2 y3 y4 y5) (smallbig_nat_text.l1 (k + 1) y0 y1 y2 y3 y4 y5)) ∧ (∀ y0 y1 y2 y3 y4 y5 y6 y7, LeO (smallbig_nat_text.l2 k y0 y1 y2 y3 y4 y5 y6 y7) (smallbig_nat_text.l2 (k + 1) y0 y1 y2 y3 y4 y5 y6 y7)) ∧ (∀ y0, LeO (smallbig_nat_text.j4 k y0) (smallbig_nat_text.j4 (k + 1) y0)) ∧ (∀ y0 y1 y2, LeO (smallbig_nat_text.l3 k y0 y1 y2) (smallbig_nat_text.l3 (k + 1) y0 y1 y2))
  | 0 => ⟨fun _ _ _ _ r h => by simp [smallbig_nat_text.j0] at h, fun _ _ _ _ _ r h => by simp [smallbig_nat_text.l0] at h, fun _ _ _ _ _ _ r h => by simp [smallbig_nat_text.l1] at h, fun _ _ _ _ _ _ _ _ r h => by simp [smallbig_nat_text.l2] at h, fun _ r h => by simp [smallbig_nat_text.j4] at h, fun _ _ _ r h => by simp [smallbig_nat_text.l3] at h⟩
  | k + 1 => by
    obtain ⟨ih0, ih1, ih2, ih3, ih4, ih5⟩ := smallbig_nat_text.mono_l k
    refine ⟨?_, ?_, ?_, ?_, ?_, ?_⟩
    · intro y0 y1 y2 y3
      unfold smallbig_nat_text.j0
      repeat' first
      | (with_reducible exact ih0 _ _ _ _)
      | (with_reducible exact ih1 _ _ _ _ _)
      | (with_reducible exact ih2 _ _ _ _ _ _)
      | (with_reducible exact ih3 _ _ _ _ _ _ _ _)
      | (with_reducible exact ih4 _)
      | (with_reducible exact ih5 _ _ _)
      | (with_reducible exact smallbig_nat_divW.mono _ _ _)
      | (with_reducible exact LeO.refl _)
      | (with_reducible exact LeO.none _)
      | (with_reducible refine LeO.ite ?_ ?_)
      | (with_reducible refine LeO.bind ?_ (fun _ => ?_))
      | exact ih0 _ _ _ _
      | exact ih1 _ _ _ _ _
      | exact ih2 _ _ _ _ _ _
      | exact ih3 _ _ _ _ _ _ _ _
      | exact ih4 _
      | exact ih5 _ _ _
      | exact smallbig_nat_divW.mono _ _ _
      | exact LeO.none _
      | refine LeO.ite ?_ ?_
      | refine LeO.bind ?_ (fun _ => ?_)
    · intro y0 y1 y2 y3 y4
      unfold smallbig_nat_text.l0
      repeat' first
      | (with_reducible exact ih0 _ _ _ _)
      | (with_reducible exact ih1 _ _ _ _ _)
      | (with_reducible exact ih2 _ _ _ _ _ _)
      | (with_reducible exact ih3 _ _ _ _ _ _ _ _)
      | (with_reducible exact ih4 _)
      | (with_reducible exact ih5 _ _ _)
      | (with_reducible exact smallbig_nat_divW.mono _ _ _)
      | (with_reducible exact LeO.refl _)
      | (with_reducible exact LeO.none _)
      | (with_reducible refine LeO.ite ?_ ?_)
      | (with_reducible refine LeO.bind ?_ (fun _ => ?_))
      | exact ih0 _ _ _ _
      | exact ih1 _ _ _ _ _
      | exact ih2 _ _ _ _ _ _
      | exact ih3 _ _ _ _ _ _ _ _
      | exact ih4 _
      | exact ih5 _ _ _
      | exact smallbig_nat_divW.mono _ _ _
      | exact LeO.none _
      | refine LeO.ite ?_ ?_
      | refine LeO.bind ?_ (fun _ => ?_)
    · intro y0 y1 y2 y3 y4 y5
      unfold smallbig_nat_text.l1
      repeat' first
      | (with_reducible exact ih0 _ _ _ _)
      | (with_reducible exact ih1 _ _ _ _ _)
      | (with_reducible exact ih2 _ _ _ _ _ _)
      | (with_reducible exact ih3 _ _ _ _ _ _ _ _)
      | (with_reducible exact ih4 _)
      | (with_reducible exact ih5 _ _ _)
      | (with_reducible exact smallbig_nat_divW.mono _ _ _)
      | (with_reducible exact LeO.refl _)
      | (with_reducible exact LeO.none _)
      | (with_reducible refine LeO.ite ?_ ?_)
      | (with_reducible refine LeO.bind ?_ (fun _ => ?_))
      | exact ih0 _ _ _ _
      | exact ih1 _ _ _ _ _
      | exact ih2 _ _ _ _ _ _
      | exact ih3 _ _ _ _ _ _ _ _
      | exact ih4 _
      | exact ih5 _ _ _
      | exact smallbig_nat_divW.mono _ _ _
      | exact LeO.none _
      | refine LeO.ite ?_ ?_
      | refine LeO.bind ?_ (fun _ => ?_)
    · intro y0 y1 y2 y3 y4 y5 y6 y7
      unfold smallbig_nat_text.l2
      repeat' first
      | (with_reducible exact ih0 _ _ _ _)
      | (with_reducible exact ih1 _ _ _ _ _)
      | (with_reducible exact ih2 _ _ _ _ _ _)
      | (with_reducible exact ih3 _ _ _ _ _ _ _ _)
      | (with_reducible exact ih4 _)
      | (with_reducible exact ih5 _ _ _)
      | (with_reducible exact smallbig_nat_divW.mono _ _ _)
      | (with_reducible exact LeO.refl _)
      | (with_reducible exact LeO.none _)
      | (with_reducible refine LeO.ite ?_ ?_)
      | (with_reducible refine LeO.bind ?_ (fun _ => ?_))
      | exact ih0 _ _ _ _
      | exact ih1 _ _ _ _ _
      | exact ih2 _ _ _ _ _ _
      | exact ih3 _ _ _ _ _ _ _ _
      | exact ih4 _
      | exact ih5 _ _ _
      | exact smallbig_nat_divW.mono _ _ _
      | exact LeO.none _
      | refine LeO.ite ?_ ?_
      | refine LeO.bind ?_ (fun _ => ?_)
    · intro y0
      unfold smallbig_nat_text.j4
      repeat' first
      | (with_reducible exact ih0 _ _ _ _)
      | (with_reducible exact ih1 _ _ _ _ _)
      | (with_reducible exact ih2 _ _ _ _ _ _)
      | (with_reducible exact ih3 _ _ _ _ _ _ _ _)
      | (with_reducible exact ih4 _)
      | (with_reducible exact ih5 _ _ _)
      | (with_reducible exact smallbig_nat_divW.mono _ _ _)
      | (with_reducible exact LeO.refl _)
      | (with_reducible exact LeO.none _)
      | (with_reducible refine LeO.ite ?_ ?_)
      | (with_reducible refine LeO.bind ?_ (fun _ => ?_))
      | exact ih0 _ _ _ _
      | exact ih1 _ _ _ _ _
      | exact ih2 _ _ _ _ _ _
      | exact ih3 _ _ _ _ _ _ _ _
      | exact ih4 _
      | exact ih5 _ _ _
      | exact smallbig_nat_divW.mono _ _ _
      | exact LeO.none _
      | refine LeO.ite ?_ ?_
      | refine LeO.bind ?_ (fun _ => ?_)
    · intro y0 y1 y2
      unfold smallbig_nat_text.l3
      repeat' first
      | (with_reducible exact ih0 _ _ _ _)
      | (with_reducible exact ih1 _ _ _ _ _)
      | (with_reducible exact ih2 _ _ _ _ _ _)
      | (with_reducible exact ih3 _ _ _ _ _ _ _ _)
      | (with_reducible exact ih4 _)
      | (with_reducible exact ih5 _ _ _)
      | (with_reducible exact smallbig_nat_divW.mono _ _ _)
      | (with_reducible exact LeO.refl _)
      | (with_reducible exact LeO.none _)
      | (with_reducible refine LeO.ite ?_ ?_)
      | (with_reducible refine LeO.bind ?_ (fun _ => ?_))
      | exact ih0 _ _ _ _
      | exact ih1 _ _ _ _ _
      | exact ih2 _ _ _ _ _ _
      | exact ih3 _ _ _ _ _ _ _ _
      | exact ih4 _
      | exact ih5 _ _ _
      | exact smallbig_nat_divW.mono _ _ _
      | exact LeO.none _
      | refine LeO.ite ?_ ?_
      | refine LeO.bind ?_ (fun _ => ?_)
theorem smallbig_nat_text.mono : ∀ a0 a1 a2 k, LeO (smallbig_nat_text.f k a0 a1 a2) (smallbig_nat_text.f (k + 1) a0 a1 a2) := by
  intro a0 a1 a2 k
  obtain ⟨ih0, ih1, ih2, ih3, ih4, ih5⟩ := smallbig_nat_text.mono_l k
  unfold smallbig_nat_text.f
  repeat' first
      | (with_reducible exact ih0 _ _ _ _)
      | (with_reducible exact ih1 _ _ _ _ _)
      | (with_reducible exact ih2 _ _ _ _ _ _)
      | (with_reducible exact ih3 _ _ _ _ _ _ _ _)
      | (with_reducible exact ih4 _)
      | (with_reducible exact ih5 _ _ _)
      | (with_reducible exact smallbig_nat_divW.mono _ _ _)
      | (with_reducible exact LeO.refl _)
      | (with_reducible exact LeO.none _)
      | (with_reducible refine LeO.ite ?_ ?_)
      | (with_reducible refine LeO.bind ?_ (fun _ => ?_))
      | exact ih0 _ _ _ _
      | exact ih1 _ _ _ _ _
      | exact ih2 _ _ _ _ _ _
      | exact ih3 _ _ _ _ _ _ _ _
      | exact ih4 _
      | exact ih5 _ _ _
      | exact smallbig_nat_divW.mono _ _ _
      | exact LeO.none _
      | refine LeO.ite ?_ ?_
      | refine LeO.bind ?_ (fun _ => ?_)
def smallbig_nat_text.T23 : Bool × List (List Nat × List Nat) := (true, [([], []), ([], []), ([], []), ([], []), ([], []), ([], []), ([4, 5], [4, 5]), ([6], [6]), ([], []), ([], []), ([8, 9], [8, 9]), ([10], [10]), ([0, 1, 0, 1, 4, 5, 6, 7, 11], [0, 1]), ([12, 7, 0, 1, 4, 5, 6, 7, 11], [7, 12]), ([2, 3, 0, 1, 2, 3, 4, 5, 6, 7, 8, 9, 10, 11, 12, 13], [2, 3]), ([14, 11, 13, 0, 1, 2, 3, 4, 5, 6, 7, 8, 9, 10, 11, 12, 13], [11, 14])])
def smallbig_nat_text.B23 : List Nat := [0, 0, 0, 0, 0, 0, 48, 112, 0, 0, 768, 1792, 4083, 8179, 16383, 32767]
theorem smallbig_nat_text.tab23 : rtab .any (opsOf Tryd.f63 23) = smallbig_nat_text.T23 := by kernel_rfl
theorem smallbig_nat_text.bits23 : waitsOk smallbig_nat_text.T23.2 smallbig_nat_text.B23 = true := by kernel_rfl
set_option maxHeartbeats 8000000 in
set_option maxRecDepth 100000 in
theorem smallbig_nat_text.calls (k : Nat) (P0_ : Nat → Prop) (A0 : Option Addr) (c0 : Nat) (l0 : List Int) (a1 : Bool) (a2 : Int) (r : List Int) (w : World) (hs0 : Kd.V (Kd.int .u32) 84 w w.heap.size (fun k_ => P0_ k_) (.slice A0 l0.length c0) l0) (hne0 : Aside0 (¬ (l0.length : Int) = 0)) (h : smallbig_nat_text.f k l0 a1 a2 = some r) :
    Calls Tryd.prog 63 #[.slice A0 l0.length c0, .bool a1, .int .i64 a2] w fun e w' => ∃ v0_ : Value, e = .returned (v0_) ∧ Kd.R (Kd.int .u8) 5 w' w.heap.size (fun k_ => (w.heap.size ≤ k_)) v0_ r ∧ Below w.heap.size w w' := by
  have HO0 := Aside0.mk (show Kd.V (Kd.int .u32) 84 w w.heap.size (fun k_ => (P0_ k_ ∨ w.heap.size ≤ k_)) (.slice A0 l0.length c0) l0 from Kd.V_mono hs0 (fun k_ hk => .inl hk))
  have HB := Aside0.mk (Below.refl w.heap.size w)
  have H : (if a2 < 2 then (smallbig_nat_text.j0 k l0 a1 a2 true) else (smallbig_nat_text.j0 k l0 a1 a2 (decide (a2 > 62)))) = some r := h
  clear h
  have HC4 := Aside0.mk H
  clear H
  go_enter Tryd.func63, Tryd.ntmps63
  go_upto_region 1 with (fail)
  go_cut [19] (fun v19 wc => ∃ (kq : Nat) (x19_3 : Bool), v19 = .bool x19_3 ∧ Aside0 (smallbig_nat_text.j0 kq l0 a1 a2 x19_3 = some r) ∧ Aside0 (kq ≤ k) ∧ Aside0 (Kd.V (Kd.int .u32) 84 wc w.heap.size (fun k_ => (P0_ k_ ∨ w.heap.size ≤ k_)) (.slice A0 l0.length c0) l0) ∧ Aside0 (Below w.heap.size w wc))
  case first =>
    have H := HC4.out
    clear HC4
    by_cases c5 : a2 < 2
    · rw [if_pos c5] at H
      have c5b0 : decide (a2 < 2) = true := decide_eq_true c5
      clear c5
      (first | rw [c5b0] | (simp only [i64_w, i32_w]; rw [c5b0]) | skip)
      have H' := Aside0.mk H
      clear H
      go_wp2
      go_meet
      case rel => exact ⟨_, (true), (by first | rfl | (simp; done) | (simp [*]; done)), H', ⟨by first | omega | exact Nat.le_refl _⟩, ⟨by (with_reducible repeat (first | apply Kd.V_alloc | apply Kd.V_drewN | apply Kd.V_drew)); exact HO0.out⟩, ⟨by repeat (first | (with_reducible first | exact HB.out | apply below_alloc | apply pw_below_drewN | apply below_drew1) | exact HB.out)⟩⟩
    · rw [if_neg c5] at H
      have c5b0 : decide (a2 < 2) = false := decide_eq_false c5
      clear c5
      (first | rw [c5b0] | (simp only [i64_w, i32_w]; rw [c5b0]) | skip)
      have H' := Aside0.mk H
      clear H
      go_wp2
      go_meet
      case rel => exact ⟨_, (decide (a2 > 62)), (by first | rfl | (simp; done) | (simp [*]; done)), H', ⟨by first | omega | exact Nat.le_refl _⟩, ⟨by (with_reducible repeat (first | apply Kd.V_alloc | apply Kd.V_drewN | apply Kd.V_drew)); exact HO0.out⟩, ⟨by repeat (first | (with_reducible first | exact HB.out | apply below_alloc | apply pw_below_drewN | apply below_drew1) | exact HB.out)⟩⟩
  case rest =>
    clear HC4
    try clear p2
    try clear c5
    try clear c5b0
    obtain ⟨kq, x19_3, rfl, HA, HJ3, HO_0, HB⟩ := hcut
    cases kq with
    | zero => exact absurd HA.out (by simp [smallbig_nat_text.j0])
    | succ kj3 =>
      have H := HA.out
      clear HA
      simp only [smallbig_nat_text.j0] at H
      by_cases c6 : x19_3 = true
      · subst c6
        have H1 : (none) = some r := by rw [if_pos rfl] at H; exact H
        clear H
        have H := H1
        clear H1
        exact absurd H (by simp)
      · replace c6 := Bool.eq_false_iff.mpr c6
        subst c6
        have H1 : (if (l0.length : Int) = 0 then (some (([48] : List Int))) else (smallbig_nat_text.l0 kj3 l0 a1 a2 (IntKind.u64.wrap (a2)) 1)) = some r := by rw [if_neg (show ¬ (false = true) by decide)] at H; exact H
        clear H
        have H := H1
        clear H1
        by_cases c7 : (l0.length : Int) = 0
        · exact absurd c7 hne0.out
        · rw [if_neg c7] at H
          have c7b0 : ((l0.length : Int) == 0) = false := beq_eq_false_iff_ne.mpr c7
          have c7b1 : ((l0.length : Int) != 0) = true := bne_iff_ne.mpr c7
          have c7b2 : ¬ (l0 = []) := fun h_ => c7 (by rw [h_]; rfl)
          have H' := Aside0.mk H
          clear H
          go_wp2
          go_loopg [7, 8] kj3 (fun kq v7 v8 w' => ∃ (x7_2 : Int) (x8_2 : Int), v7 = .int .u64 x7_2 ∧ v8 = .int .i64 x8_2 ∧ Aside0 (smallbig_nat_text.l0 kq l0 a1 a2 x7_2 x8_2 = some r) ∧ Aside0 (kq ≤ kj3) ∧ Aside0 (Kd.V (Kd.int .u32) 84 w' w.heap.size (fun k_ => (P0_ k_ ∨ w.heap.size ≤ k_)) (.slice A0 l0.length c0) l0) ∧ Aside0 (Below w.heap.size w w'))
          case atStart => exact ⟨(IntKind.u64.wrap (a2)), (1), (by first | rfl | (simp; done) | (simp [*]; done)), (by first | rfl | (simp; done) | (simp [*]; done)), H', ⟨Nat.le_refl _⟩, ⟨by (with_reducible repeat (first | apply Kd.V_alloc | apply Kd.V_drewN | apply Kd.V_drew)); exact HO_0.out⟩, ⟨by repeat (first | (with_reducible first | exact HB.out | apply below_alloc | apply pw_below_drewN | apply below_drew1) | exact HB.out)⟩⟩
          case round =>
            clear H'
            try clear p2
            try clear c5
            try clear c5b0
            try clear c6
            try clear c7
            try clear c7b0
            try clear c7b1
            try clear c7b2
            try clear p2
            obtain ⟨x7_2, x8_2, rfl, rfl, HA, HK2, HO_0, HB⟩ := hrel
            cases gk with
            | zero => exact absurd HA.out (by simp [smallbig_nat_text.l0])
            | succ k2 =>
              have H := HA.out
              clear HA
              simp only [smallbig_nat_text.l0] at H
              by_cases c10 : (IntKind.u64.wrap (x7_2 * (IntKind.u64.wrap (a2)))) < 4294967296
              · rw [if_pos c10] at H
                have c10b0 : decide ((IntKind.u64.wrap (x7_2 * (IntKind.u64.wrap (a2)))) < 4294967296) = true := decide_eq_true c10
                clear c10
                have H' := Aside0.mk H
                clear H
                go_wp2
                go_roundg k2
                case measure => have := HJ3.out; have := HK2.out; omega
                case rel => exact ⟨(IntKind.u64.wrap (x7_2 * (IntKind.u64.wrap (a2)))), (wrap64 (x8_2 + 1)), (by first | rfl | (simp; done) | (simp [*]; done)), (by first | rfl | (simp; done) | (simp [*]; done)), H', ⟨by have := HJ3.out; have := HK2.out; omega⟩, ⟨by (with_reducible repeat (first | apply Kd.V_alloc | apply Kd.V_drewN | apply Kd.V_drew)); exact HO_0.out⟩, ⟨by repeat (first | (with_reducible first | exact HB.out | apply below_alloc | apply pw_below_drewN | apply below_drew1) | exact HB.out)⟩⟩
              · rw [if_neg c10] at H
                have c10b0 : decide ((IntKind.u64.wrap (x7_2 * (IntKind.u64.wrap (a2)))) < 4294967296) = false := decide_eq_false c10
                clear c10
                have H' := Aside0.mk H
                clear H
                go_wp2
                go_loopg [0, 9] k2 (fun kq v0 v9 w' => ∃ (x0_3 : List Int) (x9_3 : List Int), Aside0 (smallbig_nat_text.l1 kq x0_3 a1 a2 x7_2 x8_2 x9_3 = some r) ∧ Aside0 (kq ≤ k2) ∧ Aside0 (Kd.V (Kd.int .u32) 84 w' w.heap.size (fun k_ => (P0_ k_ ∨ w.heap.size ≤ k_) ∧ some k_ ≠ (v9 : Value).ownBlock) v0 x0_3) ∧ Aside0 (Kd.R (Kd.int .u8) 5 w' w.heap.size (fun k_ => (w.heap.size ≤ k_)) v9 x9_3) ∧ Aside0 (Below w.heap.size w w'))
                case atStart => exact ⟨(l0), (([] : List Int)), H', ⟨Nat.le_refl _⟩, ⟨by (with_reducible repeat (first | apply Kd.V_alloc | apply Kd.V_drewN | apply Kd.V_drew)); exact Kd.V_mono HO_0.out (fun _ hk => ⟨hk, (by simp [Value.ownBlock])⟩)⟩, ⟨by first | exact Kd.R_nil _ _ _ _ _ | exact Kd.N_nil _ _ _ _ _ | exact Kd.V_nil _ _ _ _ _ | exact Kd.Q_nil _ _ _ _ _ | exact Kd.S_nil _ _ _ _ _⟩, ⟨by repeat (first | (with_reducible first | exact HB.out | apply below_alloc | apply pw_below_drewN | apply below_drew1) | exact HB.out)⟩⟩
                case round =>
                  clear H'
                  try clear c1
                  try clear p2
                  try clear c5
                  try clear c5b0
                  try clear c6
                  try clear p6
                  try clear c7
                  try clear c7b0
                  try clear c7b1
                  try clear c7b2
                  try clear c10
                  try clear c10b0
                  try clear p2
                  obtain ⟨x0_3, x9_3, HA, HK3, HO_0, HO_9, HB⟩ := hrel
                  cases gk with
                  | zero => exact absurd HA.out (by simp [smallbig_nat_text.l1])
                  | succ k3 =>
                    have H := HA.out
                    clear HA
                    simp only [smallbig_nat_text.l1] at H
                    by_cases c11 : (x0_3.length : Int) > 0
                    · rw [if_pos c11] at H
                      have c11b0 : decide (0 < (x0_3.length : Int)) = true := decide_eq_true c11
                      have c11b1 : decide (0 < x0_3.length) = true := decide_eq_true (by omega)
                      clear c11
                      replace H := Option.bind_eq_some_iff.mp H
                      obtain ⟨⟨t118, t121⟩, A120, H⟩ := H
                      replace H : (smallbig_nat_text.l2 k3 t118 a1 a2 x7_2 x8_2 x9_3 t121 0) = some r := H
                      have A12 := Aside0.mk A120
                      clear A120
                      have H' := Aside0.mk H
                      clear H
                      obtain ⟨Ao13, co13, eo13⟩ := Kd.V_slice HO_0.out
                      subst eo13
                      go_wp2_with (first | ((with_reducible refine gate_callee (f := 74) rfl ?_); refine goesL_ (some 46) rfl rfl Tryd.func74 (by kernel_rfl) rfl #[.slice Ao13 x0_3.length co13, .int .u32 ((x7_2) % 4294967296)] rfl (by (try simp only [List.map_toArray, List.map_cons, List.map_nil]); first | done | rfl | (simp only [List.length_drop, List.length_take]; rfl)) ?_; (with_reducible refine (smallbig_nat_divW.calls k3 _ _ x0_3 ((x7_2) % 4294967296) t118 t121 _ ?side1 ?side2 A12.out).mono ?_); (case side1 => repeat (first | exact (Kd.V_reads' HO_0.out).2.2 | (with_reducible refine Kd.C_alloc ?_ _) | (with_reducible refine Kd.C_drewN ?_ _) | (with_reducible refine Kd.C_drew ?_))); (case side2 => exact (Kd.V_reads' HO_0.out).2.1); rintro e w14 ⟨v119, rfl, ho0, hb⟩; refine ⟨_, rfl, ?_⟩; have n0_ := Aside0.mk (Kd.V_below (by (with_reducible repeat (first | apply Kd.V_alloc | apply Kd.V_drewN | apply Kd.V_drew)); exact HO_0.out) hb); have n1_ := Aside0.mk (Kd.R_below (by (with_reducible repeat (first | apply Kd.R_alloc | apply Kd.R_drewN | apply Kd.R_drew)); exact HO_9.out) hb); have n2_ := Aside0.mk (Kd.V_lower (Kd.V_mono (ok' := fun k_ => (P0_ k_ ∨ w.heap.size ≤ k_) ∧ some k_ ≠ (u9 : Value).ownBlock) ho0 (fun k_ hk_ => ⟨(.inr (Nat.le_trans (below_size (by repeat (first | (with_reducible first | exact HB.out | apply below_alloc | apply pw_below_drewN | apply below_drew1) | exact HB.out))) hk_)), (Kd.fresh' (Kd.R_lt (by (with_reducible repeat (first | apply Kd.R_alloc | apply Kd.R_drewN | apply Kd.R_drew)); exact HO_9.out)) k_ hk_)⟩)) (below_size (by repeat (first | (with_reducible first | exact HB.out | apply below_alloc | apply pw_below_drewN | apply below_drew1) | exact HB.out)))); have n3_ := Aside0.mk (below_step (by repeat (first | (with_reducible first | exact HB.out | apply below_alloc | apply pw_below_drewN | apply below_drew1) | exact HB.out)) hb); clear HO_0; clear HO_9; clear HB; have HO_0 := n0_; have HO_9 := n1_; have HO120 := n2_; have HB := n3_; clear n0_ n1_ n2_ n3_; (try clear hb); (try clear hb2); (try clear hk); (try clear hi); (try clear ho0)))
                      go_loopg [9, 10, 11] k3 (fun kq v9 v10 v11 w' => ∃ (x9_4 : List Int) (x10_4 : Int) (x11_4 : Int), v10 = .int .u32 x10_4 ∧ v11 = .int .i64 x11_4 ∧ Aside0 (smallbig_nat_text.l2 kq t118 a1 a2 x7_2 x8_2 x9_4 x10_4 x11_4 = some r) ∧ Aside0 (kq ≤ k3) ∧ Aside0 (Kd.V (Kd.int .u32) 84 w' w.heap.size (fun k_ => (P0_ k_ ∨ w.heap.size ≤ k_) ∧ some k_ ≠ (v9 : Value).ownBlock) v119 t118) ∧ Aside0 (Kd.R (Kd.int .u8) 5 w' w.heap.size (fun k_ => (w.heap.size ≤ k_)) v9 x9_4) ∧ Aside0 (Below w.heap.size w w'))
                      case atStart => exact ⟨(x9_3), (t121), (0), (by first | rfl | (simp; done) | (simp [*]; done)), (by first | rfl | (simp; done) | (simp [*]; done)), H', ⟨Nat.le_refl _⟩, ⟨by (with_reducible repeat (first | apply Kd.V_alloc | apply Kd.V_drewN | apply Kd.V_drew)); exact HO120.out⟩, ⟨by (with_reducible repeat (first | apply Kd.R_alloc | apply Kd.R_drewN | apply Kd.R_drew)); exact HO_9.out⟩, ⟨by repeat (first | (with_reducible first | exact HB.out | apply below_alloc | apply pw_below_drewN | apply below_drew1) | exact HB.out)⟩⟩
                      case round =>
                        clear H'
                        try clear c1
                        try clear p2
                        try clear c5
                        try clear c5b0
                        try clear c6
                        try clear p6
                        try clear c7
                        try clear c7b0
                        try clear c7b1
                        try clear c7b2
                        try clear c10
                        try clear c10b0
                        try clear c11
                        try clear c11b0
                        try clear c11b1
                        try clear p2
                        try clear p6
                        obtain ⟨x9_4, x10_4, x11_4, rfl, rfl, HA, HK4, HO_0, HO_9, HB⟩ := hrel
                        cases gk with
                        | zero => exact absurd HA.out (by simp [smallbig_nat_text.l2])
                        | succ k4 =>
                          have H := HA.out
                          clear HA
                          simp only [smallbig_nat_text.l2] at H
                          by_cases c15 : x11_4 < x8_2
                          · rw [if_pos c15] at H
                            have c15b0 : decide (x11_4 < x8_2) = true := decide_eq_true c15
                            clear c15
                            by_cases c16 : (t118.length : Int) > 0
                            · rw [if_pos c16] at H
                              have c16b0 : decide (0 < (t118.length : Int)) = true := decide_eq_true c16
                              have c16b1 : decide (0 < t118.length) = true := decide_eq_true (by omega)
                              clear c16
                              by_cases c17 : ((a2) % 4294967296) = 0
                              · rw [if_pos c17] at H
                                exact absurd H (by simp)
                              · rw [if_neg c17] at H
                                have c17b0 : (((a2) % 4294967296) == 0) = false := beq_eq_false_iff_ne.mpr c17
                                have c17b1 : (((a2) % 4294967296) != 0) = true := bne_iff_ne.mpr c17
                                obtain ⟨ji18, hji18⟩ : ∃ j_ : Int, (Int.tmod x10_4 ((a2) % 4294967296)) = j_ := ⟨_, rfl⟩
                                replace H : (if 0 ≤ (ji18) then (if (ji18) < 62 then (if x9_4.length < 140737488355328 then (smallbig_nat_text.l2 k4 t118 a1 a2 x7_2 x8_2 (x9_4 ++ [bt (⟨#[48, 49, 50, 51, 52, 53, 54, 55, 56, 57, 97, 98, 99, 100, 101, 102, 103, 104, 105, 106, 107, 108, 109, 110, 111, 112, 113, 114, 115, 116, 117, 118, 119, 120, 121, 122, 65, 66, 67, 68, 69, 70, 71, 72, 73, 74, 75, 76, 77, 78, 79, 80, 81, 82, 83, 84, 85, 86, 87, 88, 89, 90]⟩ : ByteArray) (ji18)]) ((Int.tdiv x10_4 ((a2) % 4294967296)) % 4294967296) (wrap64 (x11_4 + 1))) else (none)) else (none)) else (none)) = some r := by first | (rw [hji18] at H; exact H) | (simp only [hji18] at H ⊢; exact H)
                                by_cases c19 : 0 ≤ (ji18)
                                · rw [if_pos c19] at H
                                  have c19b0 : decide (0 ≤ (ji18)) = true := decide_eq_true c19
                                  clear c19
                                  by_cases c20 : (ji18) < 62
                                  · rw [if_pos c20] at H
                                    have c20b0 : decide ((ji18) < 62) = true := decide_eq_true c20
                                    clear c20
                                    by_cases c22 : x9_4.length < 140737488355328
                                    · rw [if_pos c22] at H
                                      have LMc22 := Aside0.mk c22
                                      clear c22
                                      obtain ⟨y122, hy122⟩ : ∃ y_ : List Int, y_ = (x9_4 ++ [bt (⟨#[48, 49, 50, 51, 52, 53, 54, 55, 56, 57, 97, 98, 99, 100, 101, 102, 103, 104, 105, 106, 107, 108, 109, 110, 111, 112, 113, 114, 115, 116, 117, 118, 119, 120, 121, 122, 65, 66, 67, 68, 69, 70, 71, 72, 73, 74, 75, 76, 77, 78, 79, 80, 81, 82, 83, 84, 85, 86, 87, 88, 89, 90]⟩ : ByteArray) (ji18)]) := ⟨_, rfl⟩
                                      replace H : (smallbig_nat_text.l2 k4 t118 a1 a2 x7_2 x8_2 y122 ((Int.tdiv x10_4 ((a2) % 4294967296)) % 4294967296) (wrap64 (x11_4 + 1))) = some r := by first | (rw [hy122]; with_reducible exact H) | (have H2_ := (Option.bind_some _ _).symm.trans H; rw [hy122]; with_reducible exact H2_) | (have H2_ := (Option.bind_some _ _).symm.trans H; with_reducible exact H2_) | with_reducible exact H | (rw [hy122]; exact H) | exact H
                                      have Ny122 := Aside0.mk hy122
                                      clear hy122
                                      have H' := Aside0.mk H
                                      clear H
                                      obtain ⟨Ao23, co23, eo23⟩ := Kd.V_slice HO_0.out
                                      subst eo23
                                      have p21 : 0 ≤ ((ji18) : Int) := of_decide_eq_true (by first | (with_reducible assumption) | assumption)
                                      have q21 : (ji18) < (62 : Int) := of_decide_eq_true (by first | (with_reducible assumption) | assumption)
                                      have hx21 := bt_at (⟨#[48, 49, 50, 51, 52, 53, 54, 55, 56, 57, 97, 98, 99, 100, 101, 102, 103, 104, 105, 106, 107, 108, 109, 110, 111, 112, 113, 114, 115, 116, 117, 118, 119, 120, 121, 122, 65, 66, 67, 68, 69, 70, 71, 72, 73, 74, 75, 76, 77, 78, 79, 80, 81, 82, 83, 84, 85, 86, 87, 88, 89, 90]⟩ : ByteArray) (ji18)
                                      replace p21 := eq_true p21
                                      replace q21 := eq_true q21
                                      go_wp2_with (first | ((with_reducible refine gate_builtin (b := .append) (xs := #[.tmp 63, .tmp 69]) rfl ?_); (try (refine gate_guard (by rfl) ?_; dsimp only)); at_builtin; refine Kd.R_append (Kd.int .u8) (w0 := w) w.heap.size rfl (.tmp 63) (.tmp 69) 23 5 (.int .u8 0) 1 rfl Tryd.underlying23 info5 rfl (by decide) (by omega) u9 x9_4 (bt (⟨#[48, 49, 50, 51, 52, 53, 54, 55, 56, 57, 97, 98, 99, 100, 101, 102, 103, 104, 105, 106, 107, 108, 109, 110, 111, 112, 113, 114, 115, 116, 117, 118, 119, 120, 121, 122, 65, 66, 67, 68, 69, 70, 71, 72, 73, 74, 75, 76, 77, 78, 79, 80, 81, 82, 83, 84, 85, 86, 87, 88, 89, 90]⟩ : ByteArray) (ji18)) [.int .u8 (bt (⟨#[48, 49, 50, 51, 52, 53, 54, 55, 56, 57, 97, 98, 99, 100, 101, 102, 103, 104, 105, 106, 107, 108, 109, 110, 111, 112, 113, 114, 115, 116, 117, 118, 119, 120, 121, 122, 65, 66, 67, 68, 69, 70, 71, 72, 73, 74, 75, 76, 77, 78, 79, 80, 81, 82, 83, 84, 85, 86, 87, 88, 89, 90]⟩ : ByteArray) (ji18))] (fun k_ => (w.heap.size ≤ k_)) (fun _ => False) rfl rfl ?aP (fun _ hk => hk.elim) ?aF ?aO ?aB ?aS ?aL ?_; (case aP => exact rfl); (case aB => exact (by repeat (first | (with_reducible first | exact HB.out | apply below_alloc | apply pw_below_drewN | apply below_drew1) | exact HB.out))); (case aF => exact (fun k_ hk => (Nat.le_trans (below_size (by repeat (first | (with_reducible first | exact HB.out | apply below_alloc | apply pw_below_drewN | apply below_drew1) | exact HB.out))) hk))); (case aO => exact (by (with_reducible repeat (first | apply Kd.R_alloc | apply Kd.R_drewN | apply Kd.R_drew)); exact HO_9.out)); (case aS => exact (below_size (by repeat (first | (with_reducible first | exact HB.out | apply below_alloc | apply pw_below_drewN | apply below_drew1) | exact HB.out)))); (case aL => have := LMc22.out; omega); intro v123 w24 ho hb hg hat; rw [← Ny122.out] at ho; have n0_ := Aside0.mk (Kd.V_afterv (ok := (fun k_ => (P0_ k_ ∨ w.heap.size ≤ k_))) (by (with_reducible repeat (first | apply Kd.V_alloc | apply Kd.V_drewN | apply Kd.V_drew)); exact HO_0.out) hg hat); have n1_ := Aside0.mk (hb); have n2_ := Aside0.mk (ho); clear HO_0; clear HB; clear HO_9; have HO_0 := n0_; have HB := n1_; have HO124 := n2_; clear n0_ n1_ n2_; clear ho hb hg hat))
                                      go_roundg k4
                                      case measure => have := HJ3.out; have := HK2.out; have := HK3.out; have := HK4.out; omega
                                      case rel => exact ⟨(y122), ((Int.tdiv x10_4 ((a2) % 4294967296)) % 4294967296), (wrap64 (x11_4 + 1)), (by first | rfl | (simp; done) | (simp [*]; done)), (by first | rfl | (simp; done) | (simp [*]; done)), H', ⟨by have := HJ3.out; have := HK2.out; have := HK3.out; have := HK4.out; omega⟩, ⟨by (with_reducible repeat (first | apply Kd.V_alloc | apply Kd.V_drewN | apply Kd.V_drew)); exact HO_0.out⟩, ⟨by (with_reducible repeat (first | apply Kd.R_alloc | apply Kd.R_drewN | apply Kd.R_drew)); exact HO124.out⟩, ⟨by repeat (first | (with_reducible first | exact HB.out | apply below_alloc | apply pw_below_drewN | apply below_drew1) | exact HB.out)⟩⟩
                                    · rw [if_neg c22] at H
                                      exact absurd H (by simp)
                                  · rw [if_neg c20] at H
                                    exact absurd H (by simp)
                                · rw [if_neg c19] at H
                                  exact absurd H (by simp)
                            · rw [if_neg c16] at H
                              have c16b0 : decide (0 < (t118.length : Int)) = false := decide_eq_false c16
                              have c16b1 : decide (0 < t118.length) = false := decide_eq_false (by omega)
                              clear c16
                              by_cases c25 : x10_4 > 0
                              · rw [if_pos c25] at H
                                have c25b0 : decide (0 < x10_4) = true := decide_eq_true c25
                                clear c25
                                by_cases c26 : ((a2) % 4294967296) = 0
                                · rw [if_pos c26] at H
                                  exact absurd H (by simp)
                                · rw [if_neg c26] at H
                                  have c26b0 : (((a2) % 4294967296) == 0) = false := beq_eq_false_iff_ne.mpr c26
                                  have c26b1 : (((a2) % 4294967296) != 0) = true := bne_iff_ne.mpr c26
                                  obtain ⟨ji27, hji27⟩ : ∃ j_ : Int, (Int.tmod x10_4 ((a2) % 4294967296)) = j_ := ⟨_, rfl⟩
                                  replace H : (if 0 ≤ (ji27) then (if (ji27) < 62 then (if x9_4.length < 140737488355328 then (smallbig_nat_text.l2 k4 t118 a1 a2 x7_2 x8_2 (x9_4 ++ [bt (⟨#[48, 49, 50, 51, 52, 53, 54, 55, 56, 57, 97, 98, 99, 100, 101, 102, 103, 104, 105, 106, 107, 108, 109, 110, 111, 112, 113, 114, 115, 116, 117, 118, 119, 120, 121, 122, 65, 66, 67, 68, 69, 70, 71, 72, 73, 74, 75, 76, 77, 78, 79, 80, 81, 82, 83, 84, 85, 86, 87, 88, 89, 90]⟩ : ByteArray) (ji27)]) ((Int.tdiv x10_4 ((a2) % 4294967296)) % 4294967296) (wrap64 (x11_4 + 1))) else (none)) else (none)) else (none)) = some r := by first | (rw [hji27] at H; exact H) | (simp only [hji27] at H ⊢; exact H)
                                  by_cases c28 : 0 ≤ (ji27)
                                  · rw [if_pos c28] at H
                                    have c28b0 : decide (0 ≤ (ji27)) = true := decide_eq_true c28
                                    clear c28
                                    by_cases c29 : (ji27) < 62
                                    · rw [if_pos c29] at H
                                      have c29b0 : decide ((ji27) < 62) = true := decide_eq_true c29
                                      clear c29
                                      by_cases c31 : x9_4.length < 140737488355328
                                      · rw [if_pos c31] at H
                                        have LMc31 := Aside0.mk c31
                                        clear c31
                                        obtain ⟨y125, hy125⟩ : ∃ y_ : List Int, y_ = (x9_4 ++ [bt (⟨#[48, 49, 50, 51, 52, 53, 54, 55, 56, 57, 97, 98, 99, 100, 101, 102, 103, 104, 105, 106, 107, 108, 109, 110, 111, 112, 113, 114, 115, 116, 117, 118, 119, 120, 121, 122, 65, 66, 67, 68, 69, 70, 71, 72, 73, 74, 75, 76, 77, 78, 79, 80, 81, 82, 83, 84, 85, 86, 87, 88, 89, 90]⟩ : ByteArray) (ji27)]) := ⟨_, rfl⟩
                                        replace H : (smallbig_nat_text.l2 k4 t118 a1 a2 x7_2 x8_2 y125 ((Int.tdiv x10_4 ((a2) % 4294967296)) % 4294967296) (wrap64 (x11_4 + 1))) = some r := by first | (rw [hy125]; with_reducible exact H) | (have H2_ := (Option.bind_some _ _).symm.trans H; rw [hy125]; with_reducible exact H2_) | (have H2_ := (Option.bind_some _ _).symm.trans H; with_reducible exact H2_) | with_reducible exact H | (rw [hy125]; exact H) | exact H
                                        have Ny125 := Aside0.mk hy125
                                        clear hy125
                                        have H' := Aside0.mk H
                                        clear H
                                        obtain ⟨Ao32, co32, eo32⟩ := Kd.V_slice HO_0.out
                                        subst eo32
                                        have p30 : 0 ≤ ((ji27) : Int) := of_decide_eq_true (by first | (with_reducible assumption) | assumption)
                                        have q30 : (ji27) < (62 : Int) := of_decide_eq_true (by first | (with_reducible assumption) | assumption)
                                        have hx30 := bt_at (⟨#[48, 49, 50, 51, 52, 53, 54, 55, 56, 57, 97, 98, 99, 100, 101, 102, 103, 104, 105, 106, 107, 108, 109, 110, 111, 112, 113, 114, 115, 116, 117, 118, 119, 120, 121, 122, 65, 66, 67, 68, 69, 70, 71, 72, 73, 74, 75, 76, 77, 78, 79, 80, 81, 82, 83, 84, 85, 86, 87, 88, 89, 90]⟩ : ByteArray) (ji27)
                                        replace p30 := eq_true p30
                                        replace q30 := eq_true q30
                                        go_wp2_with (first | ((with_reducible refine gate_builtin (b := .append) (xs := #[.tmp 63, .tmp 69]) rfl ?_); (try (refine gate_guard (by rfl) ?_; dsimp only)); at_builtin; refine Kd.R_append (Kd.int .u8) (w0 := w) w.heap.size rfl (.tmp 63) (.tmp 69) 23 5 (.int .u8 0) 1 rfl Tryd.underlying23 info5 rfl (by decide) (by omega) u9 x9_4 (bt (⟨#[48, 49, 50, 51, 52, 53, 54, 55, 56, 57, 97, 98, 99, 100, 101, 102, 103, 104, 105, 106, 107, 108, 109, 110, 111, 112, 113, 114, 115, 116, 117, 118, 119, 120, 121, 122, 65, 66, 67, 68, 69, 70, 71, 72, 73, 74, 75, 76, 77, 78, 79, 80, 81, 82, 83, 84, 85, 86, 87, 88, 89, 90]⟩ : ByteArray) (ji27)) [.int .u8 (bt (⟨#[48, 49, 50, 51, 52, 53, 54, 55, 56, 57, 97, 98, 99, 100, 101, 102, 103, 104, 105, 106, 107, 108, 109, 110, 111, 112, 113, 114, 115, 116, 117, 118, 119, 120, 121, 122, 65, 66, 67, 68, 69, 70, 71, 72, 73, 74, 75, 76, 77, 78, 79, 80, 81, 82, 83, 84, 85, 86, 87, 88, 89, 90]⟩ : ByteArray) (ji27))] (fun k_ => (w.heap.size ≤ k_)) (fun _ => False) rfl rfl ?aP (fun _ hk => hk.elim) ?aF ?aO ?aB ?aS ?aL ?_; (case aP => exact rfl); (case aB => exact (by repeat (first | (with_reducible first | exact HB.out | apply below_alloc | apply pw_below_drewN | apply below_drew1) | exact HB.out))); (case aF => exact (fun k_ hk => (Nat.le_trans (below_size (by repeat (first | (with_reducible first | exact HB.out | apply below_alloc | apply pw_below_drewN | apply below_drew1) | exact HB.out))) hk))); (case aO => exact (by (with_reducible repeat (first | apply Kd.R_alloc | apply Kd.R_drewN | apply Kd.R_drew)); exact HO_9.out)); (case aS => exact (below_size (by repeat (first | (with_reducible first | exact HB.out | apply below_alloc | apply pw_below_drewN | apply below_drew1) | exact HB.out)))); (case aL => have := LMc31.out; omega); intro v126 w33 ho hb hg hat; rw [← Ny125.out] at ho; have n0_ := Aside0.mk (Kd.V_afterv (ok := (fun k_ => (P0_ k_ ∨ w.heap.size ≤ k_))) (by (with_reducible repeat (first | apply Kd.V_alloc | apply Kd.V_drewN | apply Kd.V_drew)); exact HO_0.out) hg hat); have n1_ := Aside0.mk (hb); have n2_ := Aside0.mk (ho); clear HO_0; clear HB; clear HO_9; have HO_0 := n0_; have HB := n1_; have HO127 := n2_; clear n0_ n1_ n2_; clear ho hb hg hat))
                                        go_roundg k4
                                        case measure => have := HJ3.out; have := HK2.out; have := HK3.out; have := HK4.out; omega
                                        case rel => exact ⟨(y125), ((Int.tdiv x10_4 ((a2) % 4294967296)) % 4294967296), (wrap64 (x11_4 + 1)), (by first | rfl | (simp; done) | (simp [*]; done)), (by first | rfl | (simp; done) | (simp [*]; done)), H', ⟨by have := HJ3.out; have := HK2.out; have := HK3.out; have := HK4.out; omega⟩, ⟨by (with_reducible repeat (first | apply Kd.V_alloc | apply Kd.V_drewN | apply Kd.V_drew)); exact HO_0.out⟩, ⟨by (with_reducible repeat (first | apply Kd.R_alloc | apply Kd.R_drewN | apply Kd.R_drew)); exact HO127.out⟩, ⟨by repeat (first | (with_reducible first | exact HB.out | apply below_alloc | apply pw_below_drewN | apply below_drew1) | exact HB.out)⟩⟩
                                      · rw [if_neg c31] at H
                                        exact absurd H (by simp)
                                    · rw [if_neg c29] at H
                                      exact absurd H (by simp)
                                  · rw [if_neg c28] at H
                                    exact absurd H (by simp)
                              · rw [if_neg c25] at H
                                have c25b0 : decide (0 < x10_4) = false := decide_eq_false c25
                                clear c25
                                have H' := Aside0.mk H
                                clear H
                                obtain ⟨Ao34, co34, eo34⟩ := Kd.V_slice HO_0.out
                                subst eo34
                                go_wp2
                                go_roundg k4
                                case measure => have := HJ3.out; have := HK2.out; have := HK3.out; have := HK4.out; omega
                                case rel => exact ⟨(t118), (x9_4), H', ⟨by have := HJ3.out; have := HK2.out; have := HK3.out; have := HK4.out; omega⟩, ⟨by (with_reducible repeat (first | apply Kd.V_alloc | apply Kd.V_drewN | apply Kd.V_drew)); exact HO_0.out⟩, ⟨by (with_reducible repeat (first | apply Kd.R_alloc | apply Kd.R_drewN | apply Kd.R_drew)); exact HO_9.out⟩, ⟨by repeat (first | (with_reducible first | exact HB.out | apply below_alloc | apply pw_below_drewN | apply below_drew1) | exact HB.out)⟩⟩
                          · rw [if_neg c15] at H
                            have c15b0 : decide (x11_4 < x8_2) = false := decide_eq_false c15
                            clear c15
                            have H' := Aside0.mk H
                            clear H
                            go_wp2
                            go_roundg k4
                            case measure => have := HJ3.out; have := HK2.out; have := HK3.out; have := HK4.out; omega
                            case rel => exact ⟨(t118), (x9_4), H', ⟨by have := HJ3.out; have := HK2.out; have := HK3.out; have := HK4.out; omega⟩, ⟨by (with_reducible repeat (first | apply Kd.V_alloc | apply Kd.V_drewN | apply Kd.V_drew)); exact HO_0.out⟩, ⟨by (with_reducible repeat (first | apply Kd.R_alloc | apply Kd.R_drewN | apply Kd.R_drew)); exact HO_9.out⟩, ⟨by repeat (first | (with_reducible first | exact HB.out | apply below_alloc | apply pw_below_drewN | apply below_drew1) | exact HB.out)⟩⟩
                    · rw [if_neg c11] at H
                      have c11b0 : decide (0 < (x0_3.length : Int)) = false := decide_eq_false c11
                      have c11b1 : decide (0 < x0_3.length) = false := decide_eq_false (by omega)
                      clear c11
                      have HC35 := Aside0.mk H
                      clear H
                      obtain ⟨Ao36, co36, eo36⟩ := Kd.V_slice HO_0.out
                      subst eo36
                      go_upto_if 75 with (fail)
                      go_cut [9] (fun v9 wc => ∃ (kq : Nat) (x9_34 : List Int), Aside0 (smallbig_nat_text.j4 kq x9_34 = some r) ∧ Aside0 (kq ≤ k3) ∧ Aside0 (Kd.R (Kd.int .u8) 5 wc w.heap.size (fun k_ => (w.heap.size ≤ k_)) v9 x9_34) ∧ Aside0 (Below w.heap.size w wc))
                      case first =>
                        have H := HC35.out
                        clear HC35
                        by_cases c37 : a1 = true
                        · subst c37
                          have H1 : (if x9_3.length < 140737488355328 then (smallbig_nat_text.j4 k3 (x9_3 ++ [45])) else (none)) = some r := by rw [if_pos rfl] at H; exact H
                          clear H
                          have H := H1
                          clear H1
                          by_cases c38 : x9_3.length < 140737488355328
                          · rw [if_pos c38] at H
                            have LMc38 := Aside0.mk c38
                            clear c38
                            obtain ⟨y128, hy128⟩ : ∃ y_ : List Int, y_ = (x9_3 ++ [45]) := ⟨_, rfl⟩
                            replace H : (smallbig_nat_text.j4 k3 y128) = some r := by first | (rw [hy128]; with_reducible exact H) | (have H2_ := (Option.bind_some _ _).symm.trans H; rw [hy128]; with_reducible exact H2_) | (have H2_ := (Option.bind_some _ _).symm.trans H; with_reducible exact H2_) | with_reducible exact H | (rw [hy128]; exact H) | exact H
                            have Ny128 := Aside0.mk hy128
                            clear hy128
                            have H' := Aside0.mk H
                            clear H
                            go_wp2_with (first | ((with_reducible refine gate_builtin (b := .append) (xs := #[.tmp 76, .tmp 77]) rfl ?_); (try (refine gate_guard (by rfl) ?_; dsimp only)); at_builtin; refine Kd.R_append (Kd.int .u8) (w0 := w) w.heap.size rfl (.tmp 76) (.tmp 77) 23 5 (.int .u8 0) 1 rfl Tryd.underlying23 info5 rfl (by decide) (by omega) u9 x9_3 45 [.int .u8 45] (fun k_ => (w.heap.size ≤ k_)) (fun _ => False) rfl rfl ?aP (fun _ hk => hk.elim) ?aF ?aO ?aB ?aS ?aL ?_; (case aP => exact rfl); (case aB => exact (by repeat (first | (with_reducible first | exact HB.out | apply below_alloc | apply pw_below_drewN | apply below_drew1) | exact HB.out))); (case aF => exact (fun k_ hk => (Nat.le_trans (below_size (by repeat (first | (with_reducible first | exact HB.out | apply below_alloc | apply pw_below_drewN | apply below_drew1) | exact HB.out))) hk))); (case aO => exact (by (with_reducible repeat (first | apply Kd.R_alloc | apply Kd.R_drewN | apply Kd.R_drew)); exact HO_9.out)); (case aS => exact (below_size (by repeat (first | (with_reducible first | exact HB.out | apply below_alloc | apply pw_below_drewN | apply below_drew1) | exact HB.out)))); (case aL => have := LMc38.out; omega); intro v129 w39 ho hb hg hat; rw [← Ny128.out] at ho; have n0_ := Aside0.mk (Kd.V_afterv (ok := (fun k_ => (P0_ k_ ∨ w.heap.size ≤ k_))) (by (with_reducible repeat (first | apply Kd.V_alloc | apply Kd.V_drewN | apply Kd.V_drew)); exact HO_0.out) hg hat); have n1_ := Aside0.mk (hb); have n2_ := Aside0.mk (ho); clear HO_0; clear HB; clear HO_9; have HO_0 := n0_; have HB := n1_; have HO130 := n2_; clear n0_ n1_ n2_; clear ho hb hg hat))
                            go_meet
                            case rel => exact ⟨_, (y128), H', ⟨by have := HJ3.out; have := HK2.out; have := HK3.out; first | omega | exact Nat.le_refl _⟩, ⟨by (with_reducible repeat (first | apply Kd.R_alloc | apply Kd.R_drewN | apply Kd.R_drew)); exact HO130.out⟩, ⟨by repeat (first | (with_reducible first | exact HB.out | apply below_alloc | apply pw_below_drewN | apply below_drew1) | exact HB.out)⟩⟩
                          · rw [if_neg c38] at H
                            exact absurd H (by simp)
                        · replace c37 := Bool.eq_false_iff.mpr c37
                          subst c37
                          have H1 : (smallbig_nat_text.j4 k3 x9_3) = some r := by rw [if_neg (show ¬ (false = true) by decide)] at H; exact H
                          clear H
                          have H := H1
                          clear H1
                          have H' := Aside0.mk H
                          clear H
                          go_wp2
                          go_meet
                          case rel => exact ⟨_, (x9_3), H', ⟨by have := HJ3.out; have := HK2.out; have := HK3.out; first | omega | exact Nat.le_refl _⟩, ⟨by (with_reducible repeat (first | apply Kd.R_alloc | apply Kd.R_drewN | apply Kd.R_drew)); exact HO_9.out⟩, ⟨by repeat (first | (with_reducible first | exact HB.out | apply below_alloc | apply pw_below_drewN | apply below_drew1) | exact HB.out)⟩⟩
                      case rest =>
                        clear HC35
                        try clear c1
                        try clear c2
                        try clear p2
                        try clear q2
                        try clear hx2
                        try clear c3
                        try clear p3
                        try clear q3
                        try clear hx3
                        try clear c5
                        try clear c5b0
                        try clear c6
                        try clear p6
                        try clear c7
                        try clear c7b0
                        try clear c7b1
                        try clear c7b2
                        try clear c10
                        try clear c10b0
                        try clear c11
                        try clear c11b0
                        try clear c11b1
                        try clear c15
                        try clear c15b0
                        try clear c16
                        try clear c16b0
                        try clear c16b1
                        try clear c17
                        try clear c17b0
                        try clear c17b1
                        try clear c19
                        try clear c19b0
                        try clear c20
                        try clear c20b0
                        try clear p21
                        try clear q21
                        try clear hx21
                        try clear c22
                        try clear c25
                        try clear c25b0
                        try clear c26
                        try clear c26b0
                        try clear c26b1
                        try clear c28
                        try clear c28b0
                        try clear c29
                        try clear c29b0
                        try clear p30
                        try clear q30
                        try clear hx30
                        try clear c31
                        try clear c37
                        try clear c38
                        try clear p2
                        try clear p21
                        try clear p30
                        try clear p6
                        try clear q21
                        try clear q30
                        obtain ⟨kq, x9_34, HA, HJ34, HO_9, HB⟩ := hcut
                        cases kq with
                        | zero => exact absurd HA.out (by simp [smallbig_nat_text.j4])
                        | succ kj34 =>
                          have H := HA.out
                          clear HA
                          simp only [smallbig_nat_text.j4] at H
                          have H' := Aside0.mk H
                          clear H
                          obtain ⟨Ao40, co40, eo40⟩ := Kd.R_slice HO_9.out
                          subst eo40
                          go_wp2
                          go_loopg [12, 13] kj34 (fun kq v12 v13 w' => ∃ (x9_5 : List Int) (x12_5 : Int) (x13_5 : Int), v12 = .int .i64 x12_5 ∧ v13 = .int .i64 x13_5 ∧ Aside0 (smallbig_nat_text.l3 kq x9_5 x12_5 x13_5 = some r) ∧ Aside0 (kq ≤ kj34) ∧ Aside0 (Kd.R (Kd.int .u8) 5 w' w.heap.size (fun k_ => (w.heap.size ≤ k_)) (.slice Ao40 x9_34.length co40) x9_5) ∧ Aside0 (Below w.heap.size w w'))
                          case atStart => exact ⟨(x9_34), (0), (wrap64 ((x9_34.length : Int) - 1)), (by first | rfl | (simp; done) | (simp [*]; done)), (by first | rfl | (simp; done) | (simp [*]; done)), H', ⟨Nat.le_refl _⟩, ⟨by (with_reducible repeat (first | apply Kd.R_alloc | apply Kd.R_drewN | apply Kd.R_drew)); exact HO_9.out⟩, ⟨by repeat (first | (with_reducible first | exact HB.out | apply below_alloc | apply pw_below_drewN | apply below_drew1) | exact HB.out)⟩⟩
                          case round =>
                            clear H'
                            try clear c1
                            try clear c2
                            try clear p2
                            try clear q2
                            try clear hx2
                            try clear c3
                            try clear p3
                            try clear q3
                            try clear hx3
                            try clear c5
                            try clear c5b0
                            try clear c6
                            try clear p6
                            try clear c7
                            try clear c7b0
                            try clear c7b1
                            try clear c7b2
                            try clear c10
                            try clear c10b0
                            try clear c11
                            try clear c11b0
                            try clear c11b1
                            try clear c15
                            try clear c15b0
                            try clear c16
                            try clear c16b0
                            try clear c16b1
                            try clear c17
                            try clear c17b0
                            try clear c17b1
                            try clear c19
                            try clear c19b0
                            try clear c20
                            try clear c20b0
                            try clear p21
                            try clear q21
                            try clear hx21
                            try clear c22
                            try clear c25
                            try clear c25b0
                            try clear c26
                            try clear c26b0
                            try clear c26b1
                            try clear c28
                            try clear c28b0
                            try clear c29
                            try clear c29b0
                            try clear p30
                            try clear q30
                            try clear hx30
                            try clear c31
                            try clear c37
                            try clear c38
                            try clear p2
                            try clear p21
                            try clear p3
                            try clear p30
                            try clear p6
                            try clear q2
                            try clear q21
                            try clear q3
                            try clear q30
                            obtain ⟨x9_5, x12_5, x13_5, rfl, rfl, HA, HK5, HO_9, HB⟩ := hrel
                            have hl9_5 := (Kd.R_reads' HO_9.out).1
                            rw [hl9_5] at HO_9
                            (try simp only [hl9_5])
                            cases gk with
                            | zero => exact absurd HA.out (by simp [smallbig_nat_text.l3])
                            | succ k5 =>
                              have H := HA.out
                              clear HA
                              simp only [smallbig_nat_text.l3] at H
                              by_cases c41 : x12_5 < x13_5
                              · rw [if_pos c41] at H
                                have c41b0 : decide (x12_5 < x13_5) = true := decide_eq_true c41
                                clear c41
                                by_cases c42 : 0 ≤ x13_5
                                · rw [if_pos c42] at H
                                  have c42b0 : decide (0 ≤ x13_5) = true := decide_eq_true c42
                                  clear c42
                                  by_cases c43 : x13_5 < (x9_5.length : Int)
                                  · rw [if_pos c43] at H
                                    have c43b0 : decide (x13_5 < (x9_5.length : Int)) = true := decide_eq_true c43
                                    clear c43
                                    by_cases c44 : 0 ≤ x12_5
                                    · rw [if_pos c44] at H
                                      have c44b0 : decide (0 ≤ x12_5) = true := decide_eq_true c44
                                      clear c44
                                      by_cases c45 : x12_5 < (x9_5.length : Int)
                                      · rw [if_pos c45] at H
                                        have c45b0 : decide (x12_5 < (x9_5.length : Int)) = true := decide_eq_true c45
                                        clear c45
                                        obtain ⟨y133, hy133⟩ : ∃ y_ : List Int, y_ = (x9_5.set (x12_5 : Int).toNat (rd x9_5 x13_5)) := ⟨_, rfl⟩
                                        replace H : (smallbig_nat_text.l3 k5 (y133.set (x13_5 : Int).toNat (rd x9_5 x12_5)) (wrap64 (x12_5 + 1)) (wrap64 (x13_5 - 1))) = some r := by first | (rw [hy133]; with_reducible exact H) | (have H2_ := (Option.bind_some _ _).symm.trans H; rw [hy133]; with_reducible exact H2_) | (have H2_ := (Option.bind_some _ _).symm.trans H; with_reducible exact H2_) | with_reducible exact H | (rw [hy133]; exact H) | exact H
                                        have Ny133 := Aside0.mk hy133
                                        clear hy133
                                        obtain ⟨y134, hy134⟩ : ∃ y_ : List Int, y_ = (y133.set (x13_5 : Int).toNat (rd x9_5 x12_5)) := ⟨_, rfl⟩
                                        replace H : (smallbig_nat_text.l3 k5 y134 (wrap64 (x12_5 + 1)) (wrap64 (x13_5 - 1))) = some r := by first | (rw [hy134]; with_reducible exact H) | (have H2_ := (Option.bind_some _ _).symm.trans H; rw [hy134]; with_reducible exact H2_) | (have H2_ := (Option.bind_some _ _).symm.trans H; with_reducible exact H2_) | with_reducible exact H | (rw [hy134]; exact H) | exact H
                                        have Ny134 := Aside0.mk hy134
                                        clear hy134
                                        have H' := Aside0.mk H
                                        clear H
                                        try go_wp2
                                        have n0_ := Aside0.mk (Kd.R_drew HO_9.out)
                                        have n1_ := Aside0.mk (below_drew1 HB.out)
                                        clear HO_9
                                        clear HB
                                        have HO_9 := n0_
                                        have HB := n1_
                                        clear n0_ n1_
                                        have p131 : 0 ≤ (x13_5 : Int) := of_decide_eq_true (by first | (with_reducible assumption) | assumption)
                                        have q131 : x13_5 < (x9_5.length : Int) := of_decide_eq_true (by first | (with_reducible assumption) | assumption)
                                        obtain ⟨ad131, e131, hx131_0⟩ := Kd.at_int (Kd.R_reads' HO_9.out).2.2 x13_5 p131 q131
                                        cases e131
                                        replace p131 := eq_true p131
                                        replace q131 := eq_true q131
                                        have p132 : 0 ≤ (x12_5 : Int) := of_decide_eq_true (by first | (with_reducible assumption) | assumption)
                                        have q132 : x12_5 < (x9_5.length : Int) := of_decide_eq_true (by first | (with_reducible assumption) | assumption)
                                        obtain ⟨ad132, e132, hx132_0⟩ := Kd.at_int (Kd.R_reads' HO_9.out).2.2 x12_5 p132 q132
                                        obtain rfl : ad131 = ad132 := (by injection e132)
                                        replace p132 := eq_true p132
                                        replace q132 := eq_true q132
                                        have p46 : 0 ≤ (x12_5 : Int) := of_decide_eq_true (by first | (with_reducible assumption) | assumption)
                                        have q46 : (x12_5 : Int) < ((x9_5.length : Int) : Int) := of_decide_eq_true (by first | (with_reducible assumption) | assumption)
                                        obtain ⟨go46, co46, eo46, gb46, gl46, cl46, HG46⟩ := Kd.R_form HO_9.out (by omega)
                                        (first | cases eo46 | (injection eo46 with ea_ en_ ec_; (first | subst ea_ | (injection ea_ with ea_; subst ea_)); subst ec_; clear en_))
                                        have GB46 := Aside0.mk gb46
                                        have GG46 := Aside0.mk HG46
                                        clear gb46 gl46 HG46
                                        (first | simp only [add_plain] at hx131_0 | skip)
                                        (first | simp only [add_plain] at hx132_0 | skip)
                                        obtain ⟨hx46_0, hf46_0⟩ := Kd.R_celln 0 HO_9.out (x12_5 : Int) p46 q46
                                        replace p46 := eq_true p46
                                        replace q46 := eq_true q46
                                        have HP49 := Kd.R_putn HO_9.out (x12_5 : Int) (rd x9_5 x13_5)
                                        rw [← Ny133.out] at HP49
                                        have HQ49 := Aside0.mk HP49
                                        clear HP49
                                        have p47 : 0 ≤ (x13_5 : Int) := of_decide_eq_true (by first | (with_reducible assumption) | assumption)
                                        have q47 : (x13_5 : Int) < ((x9_5.length : Int) : Int) := of_decide_eq_true (by first | (with_reducible assumption) | assumption)
                                        obtain ⟨hx47_0, hf47_0⟩ := Kd.R_celln 0 HQ49.out (x13_5 : Int) p47 q47
                                        replace p47 := eq_true p47
                                        replace q47 := eq_true q47
                                        have HP50 := Kd.R_putn HQ49.out (x13_5 : Int) (rd x9_5 x12_5)
                                        rw [← Ny134.out] at HP50
                                        have HQ50 := Aside0.mk HP50
                                        clear HP50
                                        refine start_ (n := 16) (S := fun w' => w'.cell? ⟨go46, (x13_5).toNat, none⟩ = some (.int .u8 (rd x9_5 x13_5)) ∧ w'.cell? ⟨go46, (x12_5).toNat, none⟩ = some (.int .u8 (rd x9_5 x12_5))) (ds := [13, 15]) #[false, false, false, false, false, false, false, false, false, false, false, false, false, false, false, false] (by kernel_rfl) rfl rfl ⟨hx131_0, hx132_0⟩ (fun hHeld => ?_); refine with_tabW smallbig_nat_text.tab23 smallbig_nat_text.bits23 (fun HT_ HW_ => ?_)
                                        generalize wr.drew = w48 at HO_9 HB GG46 HQ49 HQ50 hf46_0 hf47_0 hx131_0 hx132_0 hx46_0 hx47_0 hHeld ⊢
                                        refine pure_ (i := 0) (N := some 89) (v := ?_) (a' := ?_) #[true, false, false, false, false, false, false, false, false, false, false, false, false, false, false, false] rfl rfl (any_of HT_.out (by kernel_rfl)) (fun _ _ _ h => h) (Or.inl ⟨by rfl, ?_⟩) ?_ ?_
                                        rotate_left
                                        · intro w'
                                          go_simp
                                          with_reducible rfl
                                        rotate_left
                                        · simp only [Act.put, List.setIfInBounds_toArray, List.set_cons_zero, List.set_cons_succ, i64_w, i32_w]
                                          rfl
                                        refine pure_ (i := 1) (N := some 90) (v := ?_) (a' := ?_) #[true, true, false, false, false, false, false, false, false, false, false, false, false, false, false, false] rfl rfl (any_of HT_.out (by kernel_rfl)) (fun _ _ _ h => h) (Or.inl ⟨by rfl, ?_⟩) ?_ ?_
                                        rotate_left
                                        · intro w'
                                          go_simp
                                          with_reducible rfl
                                        rotate_left
                                        · simp only [Act.put, List.setIfInBounds_toArray, List.set_cons_zero, List.set_cons_succ, i64_w, i32_w]
                                          rfl
                                        refine pure_ (i := 2) (N := some 91) (v := ?_) (a' := ?_) #[true, true, true, false, false, false, false, false, false, false, false, false, false, false, false, false] rfl rfl (any_of HT_.out (by kernel_rfl)) (fun _ _ _ h => h) (Or.inl ⟨by rfl, ?_⟩) ?_ ?_
                                        rotate_left
                                        · intro w'
                                          go_simp
                                          with_reducible rfl
                                        rotate_left
                                        · simp only [Act.put, List.setIfInBounds_toArray, List.set_cons_zero, List.set_cons_succ, i64_w, i32_w]
                                          rfl
                                        refine pure_ (i := 3) (N := some 92) (v := ?_) (a' := ?_) #[true, true, true, true, false, false, false, false, false, false, false, false, false, false, false, false] rfl rfl (any_of HT_.out (by kernel_rfl)) (fun _ _ _ h => h) (Or.inl ⟨by rfl, ?_⟩) ?_ ?_
                                        rotate_left
                                        · intro w'
                                          go_simp
                                          with_reducible rfl
                                        rotate_left
                                        · simp only [Act.put, List.setIfInBounds_toArray, List.set_cons_zero, List.set_cons_succ, i64_w, i32_w]
                                          rfl
                                        refine pure_ (i := 4) (N := some 93) (v := ?_) (a' := ?_) #[true, true, true, true, true, false, false, false, false, false, false, false, false, false, false, false] rfl rfl (any_of HT_.out (by kernel_rfl)) (fun _ _ _ h => h) (Or.inl ⟨by rfl, ?_⟩) ?_ ?_
                                        rotate_left
                                        · intro w'
                                          go_simp
                                          with_reducible rfl
                                        rotate_left
                                        · simp only [Act.put, List.setIfInBounds_toArray, List.set_cons_zero, List.set_cons_succ, i64_w, i32_w]
                                          rfl
                                        refine pure_ (i := 5) (N := some 94) (v := ?_) (a' := ?_) #[true, true, true, true, true, true, false, false, false, false, false, false, false, false, false, false] rfl rfl (any_of HT_.out (by kernel_rfl)) (fun _ _ _ h => h) (Or.inl ⟨by rfl, ?_⟩) ?_ ?_
                                        rotate_left
                                        · intro w'
                                          go_simp
                                          with_reducible rfl
                                        rotate_left
                                        · simp only [Act.put, List.setIfInBounds_toArray, List.set_cons_zero, List.set_cons_succ, i64_w, i32_w]
                                          rfl
                                        refine pure_ (i := 6) (N := some 95) (v := ?_) (a' := ?_) #[true, true, true, true, true, true, true, false, false, false, false, false, false, false, false, false] rfl rfl (any_of HT_.out (by kernel_rfl)) (fun _ _ _ h => h) (Or.inl ⟨by rfl, ?_⟩) ?_ ?_
                                        rotate_left
                                        · intro w'
                                          go_simp
                                          with_reducible rfl
                                        rotate_left
                                        · simp only [Act.put, List.setIfInBounds_toArray, List.set_cons_zero, List.set_cons_succ, i64_w, i32_w]
                                          rfl
                                        refine pure_ (i := 8) (N := some 97) (v := ?_) (a' := ?_) #[true, true, true, true, true, true, true, false, true, false, false, false, false, false, false, false] rfl rfl (any_of HT_.out (by kernel_rfl)) (fun _ _ _ h => h) (Or.inl ⟨by rfl, ?_⟩) ?_ ?_
                                        rotate_left
                                        · intro w'
                                          go_simp
                                          with_reducible rfl
                                        rotate_left
                                        · simp only [Act.put, List.setIfInBounds_toArray, List.set_cons_zero, List.set_cons_succ, i64_w, i32_w]
                                          rfl
                                        refine pure_ (i := 9) (N := some 98) (v := ?_) (a' := ?_) #[true, true, true, true, true, true, true, false, true, true, false, false, false, false, false, false] rfl rfl (any_of HT_.out (by kernel_rfl)) (fun _ _ _ h => h) (Or.inl ⟨by rfl, ?_⟩) ?_ ?_
                                        rotate_left
                                        · intro w'
                                          go_simp
                                          with_reducible rfl
                                        rotate_left
                                        · simp only [Act.put, List.setIfInBounds_toArray, List.set_cons_zero, List.set_cons_succ, i64_w, i32_w]
                                          rfl
                                        refine pure_ (i := 10) (N := some 99) (v := ?_) (a' := ?_) #[true, true, true, true, true, true, true, false, true, true, true, false, false, false, false, false] rfl rfl (any_of HT_.out (by kernel_rfl)) (fun _ _ _ h => h) (Or.inl ⟨by rfl, ?_⟩) ?_ ?_
                                        rotate_left
                                        · intro w'
                                          go_simp
                                          with_reducible rfl
                                        rotate_left
                                        · simp only [Act.put, List.setIfInBounds_toArray, List.set_cons_zero, List.set_cons_succ, i64_w, i32_w]
                                          rfl
                                        refine take_ (i := 7) (N := some 96) (v := ?_) (a' := ?_) #[true, true, true, true, true, true, true, true, true, true, true, false, false, false, false, false] rfl rfl (take_ofW HT_.out HW_.out (by kernel_rfl)) (fun _ _ _ h => h) (Or.inl ⟨by rfl, ?_⟩) hHeld ?_ ?_
                                        rotate_left
                                        · rintro w' ⟨s0, s1⟩
                                          go_simp
                                          with_reducible rfl
                                        rotate_left
                                        · simp only [Act.put, List.setIfInBounds_toArray, List.set_cons_zero, List.set_cons_succ, i64_w, i32_w]
                                          rfl
                                        refine take_ (i := 11) (N := some 100) (v := ?_) (a' := ?_) #[true, true, true, true, true, true, true, true, true, true, true, true, false, false, false, false] rfl rfl (take_ofW HT_.out HW_.out (by kernel_rfl)) (fun _ _ _ h => h) (Or.inl ⟨by rfl, ?_⟩) hHeld ?_ ?_
                                        rotate_left
                                        · rintro w' ⟨s0, s1⟩
                                          go_simp
                                          with_reducible rfl
                                        rotate_left
                                        · simp only [Act.put, List.setIfInBounds_toArray, List.set_cons_zero, List.set_cons_succ, i64_w, i32_w]
                                          rfl
                                        refine pure_ (i := 12) (N := some 101) (v := ?_) (a' := ?_) #[true, true, true, true, true, true, true, true, true, true, true, true, true, false, false, false] rfl rfl (any_of HT_.out (by kernel_rfl)) (fun _ _ _ h => h) (Or.inl ⟨by rfl, ?_⟩) ?_ ?_
                                        rotate_left
                                        · intro w'
                                          go_simp
                                          with_reducible rfl
                                        rotate_left
                                        · simp only [Act.put, List.setIfInBounds_toArray, List.set_cons_zero, List.set_cons_succ, i64_w, i32_w]
                                          rfl
                                        refine last_ (i := 13) (N := none) #[true, true, true, true, true, true, true, true, true, true, true, true, true, true, false, false] rfl rfl (one_of HT_.out (by kernel_rfl)) (by decide) (fun K hK => ?_)
                                        refine skip_ (w1 := ?_) (by rfl) rfl ?_ ?_
                                        rotate_left
                                        · go_simp
                                          rfl
                                        refine hK.out _ _ ?_
                                        clear hK K
                                        refine pure_ (i := 14) (N := some 102) (v := ?_) (a' := ?_) #[true, true, true, true, true, true, true, true, true, true, true, true, true, true, true, false] rfl rfl (any_of HT_.out (by kernel_rfl)) (fun _ _ _ h => h) (Or.inl ⟨by rfl, ?_⟩) ?_ ?_
                                        rotate_left
                                        · intro w'
                                          go_simp
                                          with_reducible rfl
                                        rotate_left
                                        · simp only [Act.put, List.setIfInBounds_toArray, List.set_cons_zero, List.set_cons_succ, i64_w, i32_w]
                                          rfl
                                        refine last_ (i := 15) (N := none) #[true, true, true, true, true, true, true, true, true, true, true, true, true, true, true, true] rfl rfl (one_of HT_.out (by kernel_rfl)) (by decide) (fun K hK => ?_)
                                        refine skip_ (w1 := ?_) (by rfl) rfl ?_ ?_
                                        rotate_left
                                        · go_simp
                                          rfl
                                        refine hK.out _ _ ?_
                                        clear hK K
                                        refine done_ (done_of HT_.out (by kernel_rfl)) ?_
                                        try go_wp2
                                        (try simp only [← hl9_5])
                                        go_roundg k5
                                        case measure => have := HJ3.out; have := HK2.out; have := HK3.out; have := HJ34.out; have := HK5.out; omega
                                        case rel => exact ⟨(y134), (wrap64 (x12_5 + 1)), (wrap64 (x13_5 - 1)), (by first | rfl | (simp; done) | (simp [*]; done)), (by first | rfl | (simp; done) | (simp [*]; done)), H', ⟨by have := HJ3.out; have := HK2.out; have := HK3.out; have := HJ34.out; have := HK5.out; omega⟩, ⟨by (try simp only [hl9_5]); (with_reducible repeat (first | apply Kd.R_alloc | apply Kd.R_drewN | apply Kd.R_drew)); exact HQ50.out⟩, ⟨by repeat (first | (with_reducible first | exact HB.out | apply below_alloc | apply pw_below_drewN | apply below_drew1 | refine below_set ?_ GB46.out | refine below_set ?_ GB46.out) | exact HB.out)⟩⟩
                                      · rw [if_neg c45] at H
                                        exact absurd H (by simp)
                                    · rw [if_neg c44] at H
                                      exact absurd H (by simp)
                                  · rw [if_neg c43] at H
                                    exact absurd H (by simp)
                                · rw [if_neg c42] at H
                                  exact absurd H (by simp)
                              · rw [if_neg c41] at H
                                have c41b0 : decide (x12_5 < x13_5) = false := decide_eq_false c41
                                clear c41
                                obtain rfl := Option.some.inj H
                                go_wp2
                                go_ret
                                exact ⟨_, by first | rfl | (simp [errW_none, errW_some] <;> rfl) | (simp [*, errW_none, errW_some] <;> rfl), by (with_reducible repeat (first | apply Kd.R_alloc | apply Kd.R_drewN | apply Kd.R_drew)); exact HO_9.out, by repeat (first | (with_reducible first | exact HB.out | apply below_alloc | apply pw_below_drewN | apply below_drew1) | exact HB.out)⟩

end Go.Proofs.YtiopgkdldkkonaaDoor.Pn

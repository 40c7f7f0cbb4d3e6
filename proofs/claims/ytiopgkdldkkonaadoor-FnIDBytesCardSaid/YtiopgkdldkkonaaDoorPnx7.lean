-- PRINTED by print.py (a twelfth state) out of the translation. Not trusted: Lean checks it.
import Derived.Test.YtiopgkdldkkonaaDoorPnx0
namespace Go.Proofs.YtiopgkdldkkonaaDoor.Pn
open Go.RowKit Go.Proofs.YtiopgkdldkkonaaDoorW.PrintWords Go.Proofs.YtiopgkdldkkonaaDoorW.PrintLast Go.Proofs.YtiopgkdldkkonaaDoorW.PrintMore
attribute [local go_sem] max2_int min2_int max_two min_two max_three min_three max_four min_four   -- for this text's walks alone
set_option linter.unusedVariables false
set_option linter.unusedSimpArgs false

/-! ### spec_IsID: function 7 -/
mutual
def spec_IsID.j0 : Nat → List Int → Bool → Option (Bool)
  | 0, _, _ => none
  | k + 1, x0, x42 => if x42 = true then (some false) else (spec_IsID.l0 k x0 (x0.length : Int) 0)
def spec_IsID.l0 : Nat → List Int → Int → Int → Option (Bool)
  | 0, _, _, _ => none
  | k + 1, x43, x44, x45 => if x45 < x44 then (if 0 ≤ x45 then (if x45 < (x43.length : Int) then (if (rd x43 x45) < 0 then (some false) else (if (rd x43 x45) ≥ 268435456 then (some false) else (spec_IsID.l0 k x43 x44 (wrap64 (x45 + 1))))) else (none)) else (none)) else (some true)
end
def spec_IsID.f (k : Nat) (l0 : List Int) : Option (Bool) := if (l0.length : Int) < 2 then (spec_IsID.j0 k l0 true) else (if (l0.length : Int) > 12 then (spec_IsID.j0 k l0 true) else (if 0 < (l0.length : Int) then (if (rd l0 0) < 0 then (spec_IsID.j0 k l0 true) else (if (rd l0 0) > 2 then (spec_IsID.j0 k l0 true) else (if 1 < (l0.length : Int) then (if (rd l0 1) < 0 then (spec_IsID.j0 k l0 true) else (if (rd l0 0) < 2 then (spec_IsID.j0 k l0 (decide ((rd l0 1) > 39))) else (spec_IsID.j0 k l0 false))) else (none)))) else (none)))
theorem spec_IsID.mono_l : ∀ k, (∀ y0 y1, LeO (spec_IsID.j0 k y0 y1) (spec_IsID.j0 (k + 1) y0 y1)) ∧ (∀ y0 y1 y2, LeO (spec_IsID.l0 k y0 y1 y2) (spec_IsID.l0 (k + 1) y0 y1 y2))
  | 0 => ⟨fun _ _ r h => by simp [spec_IsID.j0] at h, fun _ _ _ r h => by simp [spec_IsID.l0] at h⟩
  | k + 1 => by
    obtain ⟨ih0, ih1⟩ := spec_IsID.mono_l k
    refine ⟨?_, ?_⟩
    · intro y0 y1
      unfold spec_IsID.j0
      repeat' first
      | (with_reducible exact ih0 _ _)
      | (with_reducible exact ih1 _ _ _)
      | (with_reducible exact LeO.refl _)
      | (with_reducible exact LeO.none _)
      | (with_reducible refine LeO.ite ?_ ?_)
      | (with_reducible refine LeO.bind ?_ (fun _ => ?_))
      | exact ih0 _ _
      | exact ih1 _ _ _
      | exact LeO.none _
      | refine LeO.ite ?_ ?_
      | refine LeO.bind ?_ (fun _ => ?_)
    · intro y0 y1 y2
      unfold spec_IsID.l0
      repeat' first
      | (with_reducible exact ih0 _ _)
      | (with_reducible exact ih1 _ _ _)
      | (with_reducible exact LeO.refl _)
      | (with_reducible exact LeO.none _)
      | (with_reducible refine LeO.ite ?_ ?_)
      | (with_reducible refine LeO.bind ?_ (fun _ => ?_))
      | exact ih0 _ _
      | exact ih1 _ _ _
      | exact LeO.none _
      | refine LeO.ite ?_ ?_
      | refine LeO.bind ?_ (fun _ => ?_)
theorem spec_IsID.mono : ∀ a0 k, LeO (spec_IsID.f k a0) (spec_IsID.f (k + 1) a0) := by
  intro a0 k
  obtain ⟨ih0, ih1⟩ := spec_IsID.mono_l k
  unfold spec_IsID.f
  repeat' first
      | (with_reducible exact ih0 _ _)
      | (with_reducible exact ih1 _ _ _)
      | (with_reducible exact LeO.refl _)
      | (with_reducible exact LeO.none _)
      | (with_reducible refine LeO.ite ?_ ?_)
      | (with_reducible refine LeO.bind ?_ (fun _ => ?_))
      | exact ih0 _ _
      | exact ih1 _ _ _
      | exact LeO.none _
      | refine LeO.ite ?_ ?_
      | refine LeO.bind ?_ (fun _ => ?_)
set_option maxHeartbeats 8000000 in
set_option maxRecDepth 100000 in
theorem spec_IsID.calls (k : Nat) (A0 : Option Addr) (c0 : Nat) (l0 : List Int) (r : Bool) (w : World) (hr0 : Kd.C (Kd.int .i64) w A0 l0.length l0) (hc0 : l0.length ≤ c0) (h : spec_IsID.f k l0 = some r) :
    Calls Tryd.prog 7 #[.slice A0 l0.length c0] w fun e w' => e = .returned (.bool r) ∧ Drawn0 w w' := by
  have HR0 := Aside0.mk hr0
  have HC0 := Aside0.mk hc0
  clear hr0 hc0
  have H : (if (l0.length : Int) < 2 then (spec_IsID.j0 k l0 true) else (if (l0.length : Int) > 12 then (spec_IsID.j0 k l0 true) else (if 0 < (l0.length : Int) then (if (rd l0 0) < 0 then (spec_IsID.j0 k l0 true) else (if (rd l0 0) > 2 then (spec_IsID.j0 k l0 true) else (if 1 < (l0.length : Int) then (if (rd l0 1) < 0 then (spec_IsID.j0 k l0 true) else (if (rd l0 0) < 2 then (spec_IsID.j0 k l0 (decide ((rd l0 1) > 39))) else (spec_IsID.j0 k l0 false))) else (none)))) else (none)))) = some r := h
  clear h
  have HC2 := Aside0.mk H
  clear H
  go_enter Tryd.func7, Tryd.ntmps7
  go_upto_region 1 with (fail)
  go_cut [42] (fun v42 wc => ∃ (kq : Nat) (x42_1 : Bool), v42 = .bool x42_1 ∧ Aside0 (spec_IsID.j0 kq l0 x42_1 = some r) ∧ Aside0 (kq ≤ k) ∧ Drawn0 w wc)
  case first =>
    have H := HC2.out
    clear HC2
    by_cases c3 : (l0.length : Int) < 2
    · rw [if_pos c3] at H
      have c3b0 : decide ((l0.length : Int) < 2) = true := decide_eq_true c3
      have c3b1 : decide (l0.length < 2) = true := decide_eq_true (by omega)
      clear c3
      (first | rw [c3b0] | (simp only [i64_w, i32_w]; rw [c3b0]) | skip)
      have H' := Aside0.mk H
      clear H
      go_wp2
      go_meet
      case rel => exact ⟨_, (true), (by first | rfl | (simp; done) | (simp [*]; done)), H', ⟨by first | omega | exact Nat.le_refl _⟩, by repeat (first | exact Drawn0.refl _ | apply Drawn0.step)⟩
    · rw [if_neg c3] at H
      have c3b0 : decide ((l0.length : Int) < 2) = false := decide_eq_false c3
      have c3b1 : decide (l0.length < 2) = false := decide_eq_false (by omega)
      clear c3
      (first | rw [c3b0] | (simp only [i64_w, i32_w]; rw [c3b0]) | skip)
      by_cases c4 : (l0.length : Int) > 12
      · rw [if_pos c4] at H
        have c4b0 : decide (12 < (l0.length : Int)) = true := decide_eq_true c4
        have c4b1 : decide (12 < l0.length) = true := decide_eq_true (by omega)
        clear c4
        have H' := Aside0.mk H
        clear H
        go_wp2
        go_meet
        case rel => exact ⟨_, (true), (by first | rfl | (simp; done) | (simp [*]; done)), H', ⟨by first | omega | exact Nat.le_refl _⟩, by repeat (first | exact Drawn0.refl _ | apply Drawn0.step)⟩
      · rw [if_neg c4] at H
        have c4b0 : decide (12 < (l0.length : Int)) = false := decide_eq_false c4
        have c4b1 : decide (12 < l0.length) = false := decide_eq_false (by omega)
        clear c4
        by_cases c5 : 0 < (l0.length : Int)
        · rw [if_pos c5] at H
          have c5b0 : decide (0 < (l0.length : Int)) = true := decide_eq_true c5
          have c5b1 : decide (0 < l0.length) = true := decide_eq_true (by omega)
          clear c5
          by_cases c6 : (rd l0 0) < 0
          · rw [if_pos c6] at H
            have c6b0 : decide ((rd l0 0) < 0) = true := decide_eq_true c6
            clear c6
            have H' := Aside0.mk H
            clear H
            have p234 : 0 ≤ (0 : Int) := (by omega)
            have q234 : 0 < (l0.length : Int) := of_decide_eq_true (by first | (with_reducible assumption) | assumption)
            obtain ⟨ad234, e234, hx234_0⟩ := Kd.at_int HR0.out 0 p234 q234
            cases e234
            have qi234 : (0 < l0.length) = True := eq_true (by omega)
            (try rw [show ((0 : Int)).toNat = 0 from rfl] at hx234_0)
            (try rw [Addr.add_zero'] at hx234_0)
            replace p234 := eq_true p234
            replace q234 := eq_true q234
            go_wp2
            go_meet
            case rel => exact ⟨_, (true), (by first | rfl | (simp; done) | (simp [*]; done)), H', ⟨by first | omega | exact Nat.le_refl _⟩, by repeat (first | exact Drawn0.refl _ | apply Drawn0.step)⟩
          · rw [if_neg c6] at H
            have c6b0 : decide ((rd l0 0) < 0) = false := decide_eq_false c6
            clear c6
            by_cases c7 : (rd l0 0) > 2
            · rw [if_pos c7] at H
              have c7b0 : decide (2 < (rd l0 0)) = true := decide_eq_true c7
              clear c7
              have H' := Aside0.mk H
              clear H
              have p234 : 0 ≤ (0 : Int) := (by omega)
              have q234 : 0 < (l0.length : Int) := of_decide_eq_true (by first | (with_reducible assumption) | assumption)
              obtain ⟨ad234, e234, hx234_0⟩ := Kd.at_int HR0.out 0 p234 q234
              cases e234
              have qi234 : (0 < l0.length) = True := eq_true (by omega)
              (try rw [show ((0 : Int)).toNat = 0 from rfl] at hx234_0)
              (try rw [Addr.add_zero'] at hx234_0)
              replace p234 := eq_true p234
              replace q234 := eq_true q234
              have p235 : 0 ≤ (0 : Int) := (by omega)
              have q235 : 0 < (l0.length : Int) := of_decide_eq_true (by first | (with_reducible assumption) | assumption)
              obtain ⟨ad235, e235, hx235_0⟩ := Kd.at_int HR0.out 0 p235 q235
              obtain rfl : ad234 = ad235 := (by injection e235)
              have qi235 : (0 < l0.length) = True := eq_true (by omega)
              (try rw [show ((0 : Int)).toNat = 0 from rfl] at hx235_0)
              (try rw [Addr.add_zero'] at hx235_0)
              replace p235 := eq_true p235
              replace q235 := eq_true q235
              go_wp2
              go_meet
              case rel => exact ⟨_, (true), (by first | rfl | (simp; done) | (simp [*]; done)), H', ⟨by first | omega | exact Nat.le_refl _⟩, by repeat (first | exact Drawn0.refl _ | apply Drawn0.step)⟩
            · rw [if_neg c7] at H
              have c7b0 : decide (2 < (rd l0 0)) = false := decide_eq_false c7
              clear c7
              by_cases c8 : 1 < (l0.length : Int)
              · rw [if_pos c8] at H
                have c8b0 : decide (1 < (l0.length : Int)) = true := decide_eq_true c8
                have c8b1 : decide (1 < l0.length) = true := decide_eq_true (by omega)
                clear c8
                by_cases c9 : (rd l0 1) < 0
                · rw [if_pos c9] at H
                  have c9b0 : decide ((rd l0 1) < 0) = true := decide_eq_true c9
                  clear c9
                  have H' := Aside0.mk H
                  clear H
                  have p234 : 0 ≤ (0 : Int) := (by omega)
                  have q234 : 0 < (l0.length : Int) := of_decide_eq_true (by first | (with_reducible assumption) | assumption)
                  obtain ⟨ad234, e234, hx234_0⟩ := Kd.at_int HR0.out 0 p234 q234
                  cases e234
                  have qi234 : (0 < l0.length) = True := eq_true (by omega)
                  (try rw [show ((0 : Int)).toNat = 0 from rfl] at hx234_0)
                  (try rw [Addr.add_zero'] at hx234_0)
                  replace p234 := eq_true p234
                  replace q234 := eq_true q234
                  have p235 : 0 ≤ (0 : Int) := (by omega)
                  have q235 : 0 < (l0.length : Int) := of_decide_eq_true (by first | (with_reducible assumption) | assumption)
                  obtain ⟨ad235, e235, hx235_0⟩ := Kd.at_int HR0.out 0 p235 q235
                  obtain rfl : ad234 = ad235 := (by injection e235)
                  have qi235 : (0 < l0.length) = True := eq_true (by omega)
                  (try rw [show ((0 : Int)).toNat = 0 from rfl] at hx235_0)
                  (try rw [Addr.add_zero'] at hx235_0)
                  replace p235 := eq_true p235
                  replace q235 := eq_true q235
                  have p236 : 0 ≤ (1 : Int) := (by omega)
                  have q236 : 1 < (l0.length : Int) := of_decide_eq_true (by first | (with_reducible assumption) | assumption)
                  obtain ⟨ad236, e236, hx236_0⟩ := Kd.at_int HR0.out 1 p236 q236
                  obtain rfl : ad234 = ad236 := (by injection e236)
                  (try simp only [show (1 : Int).toNat = 1 from rfl, Nat.reduceMul, Nat.reduceEqDiff, Go.Addr.add, ↓reduceIte] at hx236_0)
                  have qi236 : (1 < l0.length) = True := eq_true (by omega)
                  (try rw [show ((1 : Int)).toNat = 1 from rfl] at hx236_0)
                  replace p236 := eq_true p236
                  replace q236 := eq_true q236
                  go_wp2
                  go_meet
                  case rel => exact ⟨_, (true), (by first | rfl | (simp; done) | (simp [*]; done)), H', ⟨by first | omega | exact Nat.le_refl _⟩, by repeat (first | exact Drawn0.refl _ | apply Drawn0.step)⟩
                · rw [if_neg c9] at H
                  have c9b0 : decide ((rd l0 1) < 0) = false := decide_eq_false c9
                  clear c9
                  by_cases c10 : (rd l0 0) < 2
                  · rw [if_pos c10] at H
                    have c10b0 : decide ((rd l0 0) < 2) = true := decide_eq_true c10
                    clear c10
                    have H' := Aside0.mk H
                    clear H
                    have p234 : 0 ≤ (0 : Int) := (by omega)
                    have q234 : 0 < (l0.length : Int) := of_decide_eq_true (by first | (with_reducible assumption) | assumption)
                    obtain ⟨ad234, e234, hx234_0⟩ := Kd.at_int HR0.out 0 p234 q234
                    cases e234
                    have qi234 : (0 < l0.length) = True := eq_true (by omega)
                    (try rw [show ((0 : Int)).toNat = 0 from rfl] at hx234_0)
                    (try rw [Addr.add_zero'] at hx234_0)
                    replace p234 := eq_true p234
                    replace q234 := eq_true q234
                    have p235 : 0 ≤ (0 : Int) := (by omega)
                    have q235 : 0 < (l0.length : Int) := of_decide_eq_true (by first | (with_reducible assumption) | assumption)
                    obtain ⟨ad235, e235, hx235_0⟩ := Kd.at_int HR0.out 0 p235 q235
                    obtain rfl : ad234 = ad235 := (by injection e235)
                    have qi235 : (0 < l0.length) = True := eq_true (by omega)
                    (try rw [show ((0 : Int)).toNat = 0 from rfl] at hx235_0)
                    (try rw [Addr.add_zero'] at hx235_0)
                    replace p235 := eq_true p235
                    replace q235 := eq_true q235
                    have p236 : 0 ≤ (1 : Int) := (by omega)
                    have q236 : 1 < (l0.length : Int) := of_decide_eq_true (by first | (with_reducible assumption) | assumption)
                    obtain ⟨ad236, e236, hx236_0⟩ := Kd.at_int HR0.out 1 p236 q236
                    obtain rfl : ad234 = ad236 := (by injection e236)
                    (try simp only [show (1 : Int).toNat = 1 from rfl, Nat.reduceMul, Nat.reduceEqDiff, Go.Addr.add, ↓reduceIte] at hx236_0)
                    have qi236 : (1 < l0.length) = True := eq_true (by omega)
                    (try rw [show ((1 : Int)).toNat = 1 from rfl] at hx236_0)
                    replace p236 := eq_true p236
                    replace q236 := eq_true q236
                    have p237 : 0 ≤ (0 : Int) := (by omega)
                    have q237 : 0 < (l0.length : Int) := of_decide_eq_true (by first | (with_reducible assumption) | assumption)
                    obtain ⟨ad237, e237, hx237_0⟩ := Kd.at_int HR0.out 0 p237 q237
                    obtain rfl : ad234 = ad237 := (by injection e237)
                    have qi237 : (0 < l0.length) = True := eq_true (by omega)
                    (try rw [show ((0 : Int)).toNat = 0 from rfl] at hx237_0)
                    (try rw [Addr.add_zero'] at hx237_0)
                    replace p237 := eq_true p237
                    replace q237 := eq_true q237
                    have p238 : 0 ≤ (1 : Int) := (by omega)
                    have q238 : 1 < (l0.length : Int) := of_decide_eq_true (by first | (with_reducible assumption) | assumption)
                    obtain ⟨ad238, e238, hx238_0⟩ := Kd.at_int HR0.out 1 p238 q238
                    obtain rfl : ad234 = ad238 := (by injection e238)
                    (try simp only [show (1 : Int).toNat = 1 from rfl, Nat.reduceMul, Nat.reduceEqDiff, Go.Addr.add, ↓reduceIte] at hx238_0)
                    have qi238 : (1 < l0.length) = True := eq_true (by omega)
                    (try rw [show ((1 : Int)).toNat = 1 from rfl] at hx238_0)
                    replace p238 := eq_true p238
                    replace q238 := eq_true q238
                    go_wp2
                    go_meet
                    case rel => exact ⟨_, (decide ((rd l0 1) > 39)), (by first | rfl | (simp; done) | (simp [*]; done)), H', ⟨by first | omega | exact Nat.le_refl _⟩, by repeat (first | exact Drawn0.refl _ | apply Drawn0.step)⟩
                  · rw [if_neg c10] at H
                    have c10b0 : decide ((rd l0 0) < 2) = false := decide_eq_false c10
                    clear c10
                    have H' := Aside0.mk H
                    clear H
                    have p234 : 0 ≤ (0 : Int) := (by omega)
                    have q234 : 0 < (l0.length : Int) := of_decide_eq_true (by first | (with_reducible assumption) | assumption)
                    obtain ⟨ad234, e234, hx234_0⟩ := Kd.at_int HR0.out 0 p234 q234
                    cases e234
                    have qi234 : (0 < l0.length) = True := eq_true (by omega)
                    (try rw [show ((0 : Int)).toNat = 0 from rfl] at hx234_0)
                    (try rw [Addr.add_zero'] at hx234_0)
                    replace p234 := eq_true p234
                    replace q234 := eq_true q234
                    have p235 : 0 ≤ (0 : Int) := (by omega)
                    have q235 : 0 < (l0.length : Int) := of_decide_eq_true (by first | (with_reducible assumption) | assumption)
                    obtain ⟨ad235, e235, hx235_0⟩ := Kd.at_int HR0.out 0 p235 q235
                    obtain rfl : ad234 = ad235 := (by injection e235)
                    have qi235 : (0 < l0.length) = True := eq_true (by omega)
                    (try rw [show ((0 : Int)).toNat = 0 from rfl] at hx235_0)
                    (try rw [Addr.add_zero'] at hx235_0)
                    replace p235 := eq_true p235
                    replace q235 := eq_true q235
                    have p236 : 0 ≤ (1 : Int) := (by omega)
                    have q236 : 1 < (l0.length : Int) := of_decide_eq_true (by first | (with_reducible assumption) | assumption)
                    obtain ⟨ad236, e236, hx236_0⟩ := Kd.at_int HR0.out 1 p236 q236
                    obtain rfl : ad234 = ad236 := (by injection e236)
                    (try simp only [show (1 : Int).toNat = 1 from rfl, Nat.reduceMul, Nat.reduceEqDiff, Go.Addr.add, ↓reduceIte] at hx236_0)
                    have qi236 : (1 < l0.length) = True := eq_true (by omega)
                    (try rw [show ((1 : Int)).toNat = 1 from rfl] at hx236_0)
                    replace p236 := eq_true p236
                    replace q236 := eq_true q236
                    have p237 : 0 ≤ (0 : Int) := (by omega)
                    have q237 : 0 < (l0.length : Int) := of_decide_eq_true (by first | (with_reducible assumption) | assumption)
                    obtain ⟨ad237, e237, hx237_0⟩ := Kd.at_int HR0.out 0 p237 q237
                    obtain rfl : ad234 = ad237 := (by injection e237)
                    have qi237 : (0 < l0.length) = True := eq_true (by omega)
                    (try rw [show ((0 : Int)).toNat = 0 from rfl] at hx237_0)
                    (try rw [Addr.add_zero'] at hx237_0)
                    replace p237 := eq_true p237
                    replace q237 := eq_true q237
                    go_wp2
                    go_meet
                    case rel => exact ⟨_, (false), (by first | rfl | (simp; done) | (simp [*]; done)), H', ⟨by first | omega | exact Nat.le_refl _⟩, by repeat (first | exact Drawn0.refl _ | apply Drawn0.step)⟩
              · rw [if_neg c8] at H
                exact absurd H (by simp)
        · rw [if_neg c5] at H
          exact absurd H (by simp)
  case rest =>
    clear HC2
    try clear c1
    try clear p2
    try clear q2
    try clear hx2
    try clear qi2
    try clear c3
    try clear c3b0
    try clear c3b1
    try clear c4
    try clear c4b0
    try clear c4b1
    try clear c5
    try clear c5b0
    try clear c5b1
    try clear c6
    try clear c6b0
    try clear c7
    try clear c7b0
    try clear c8
    try clear c8b0
    try clear c8b1
    try clear c9
    try clear c9b0
    try clear c10
    try clear c10b0
    try clear hx234_0
    try clear hx235_0
    try clear hx236_0
    try clear hx237_0
    try clear hx238_0
    try clear p234
    try clear p235
    try clear p236
    try clear p237
    try clear p238
    try clear q234
    try clear q235
    try clear q236
    try clear q237
    try clear q238
    obtain ⟨kq, x42_1, rfl, HA, HJ1, ⟨mc1, rfl⟩⟩ := hcut
    cases kq with
    | zero => exact absurd HA.out (by simp [spec_IsID.j0])
    | succ kj1 =>
      have H := HA.out
      clear HA
      simp only [spec_IsID.j0] at H
      by_cases c11 : x42_1 = true
      · subst c11
        have H1 : (some false) = some r := by rw [if_pos rfl] at H; exact H
        clear H
        have H := H1
        clear H1
        obtain rfl := Option.some.inj H
        go_wp2
        go_ret
        exact ⟨by first | rfl | (simp; done) | (simp [*]; done), by repeat (first | exact Drawn0.refl _ | apply Drawn0.step)⟩
      · replace c11 := Bool.eq_false_iff.mpr c11
        subst c11
        have H1 : (spec_IsID.l0 kj1 l0 (l0.length : Int) 0) = some r := by rw [if_neg (show ¬ (false = true) by decide)] at H; exact H
        clear H
        have H := H1
        clear H1
        have H' := Aside0.mk H
        clear H
        go_wp2
        go_loopg [45] kj1 (fun kq v45 w' => ∃ (x45_2 : Int), v45 = .int .i64 x45_2 ∧ Aside0 (spec_IsID.l0 kq l0 (l0.length : Int) x45_2 = some r) ∧ Aside0 (kq ≤ kj1) ∧ Drawn0 w w')
        case atStart => exact ⟨(0), (by first | rfl | (simp; done) | (simp [*]; done)), H', ⟨Nat.le_refl _⟩, by repeat (first | exact Drawn0.refl _ | apply Drawn0.step)⟩
        case round =>
          clear H'
          try clear c1
          try clear p2
          try clear q2
          try clear hx2
          try clear qi2
          try clear c3
          try clear c3b0
          try clear c3b1
          try clear c4
          try clear c4b0
          try clear c4b1
          try clear c5
          try clear c5b0
          try clear c5b1
          try clear c6
          try clear c6b0
          try clear c7
          try clear c7b0
          try clear c8
          try clear c8b0
          try clear c8b1
          try clear c9
          try clear c9b0
          try clear c10
          try clear c10b0
          try clear c11
          try clear hx234_0
          try clear hx235_0
          try clear hx236_0
          try clear hx237_0
          try clear hx238_0
          try clear p2
          try clear p234
          try clear p235
          try clear p236
          try clear p237
          try clear p238
          try clear q2
          try clear q234
          try clear q235
          try clear q236
          try clear q237
          try clear q238
          obtain ⟨x45_2, rfl, HA, HK2, ⟨m2, rfl⟩⟩ := hrel
          cases gk with
          | zero => exact absurd HA.out (by simp [spec_IsID.l0])
          | succ k2 =>
            have H := HA.out
            clear HA
            simp only [spec_IsID.l0] at H
            by_cases c12 : x45_2 < (l0.length : Int)
            · rw [if_pos c12] at H
              have c12b0 : decide (x45_2 < (l0.length : Int)) = true := decide_eq_true c12
              clear c12
              by_cases c13 : 0 ≤ x45_2
              · rw [if_pos c13] at H
                have c13b0 : decide (0 ≤ x45_2) = true := decide_eq_true c13
                clear c13
                by_cases c14 : x45_2 < (l0.length : Int)
                · rw [if_pos c14] at H
                  have c14b0 : decide (x45_2 < (l0.length : Int)) = true := decide_eq_true c14
                  clear c14
                  by_cases c15 : (rd l0 x45_2) < 0
                  · rw [if_pos c15] at H
                    have c15b0 : decide ((rd l0 x45_2) < 0) = true := decide_eq_true c15
                    clear c15
                    obtain rfl := Option.some.inj H
                    have p239 : 0 ≤ (x45_2 : Int) := of_decide_eq_true (by first | (with_reducible assumption) | assumption)
                    have q239 : x45_2 < (l0.length : Int) := of_decide_eq_true (by first | (with_reducible assumption) | assumption)
                    obtain ⟨ad239, e239, hx239_0⟩ := Kd.at_int HR0.out x45_2 p239 q239
                    cases e239
                    replace p239 := eq_true p239
                    replace q239 := eq_true q239
                    go_wp2
                    go_ret
                    exact ⟨by first | rfl | (simp; done) | (simp [*]; done), by repeat (first | exact Drawn0.refl _ | apply Drawn0.step)⟩
                  · rw [if_neg c15] at H
                    have c15b0 : decide ((rd l0 x45_2) < 0) = false := decide_eq_false c15
                    clear c15
                    by_cases c16 : (rd l0 x45_2) ≥ 268435456
                    · rw [if_pos c16] at H
                      have c16b0 : decide (268435456 ≤ (rd l0 x45_2)) = true := decide_eq_true c16
                      clear c16
                      obtain rfl := Option.some.inj H
                      have p239 : 0 ≤ (x45_2 : Int) := of_decide_eq_true (by first | (with_reducible assumption) | assumption)
                      have q239 : x45_2 < (l0.length : Int) := of_decide_eq_true (by first | (with_reducible assumption) | assumption)
                      obtain ⟨ad239, e239, hx239_0⟩ := Kd.at_int HR0.out x45_2 p239 q239
                      cases e239
                      replace p239 := eq_true p239
                      replace q239 := eq_true q239
                      go_wp2
                      go_ret
                      exact ⟨by first | rfl | (simp; done) | (simp [*]; done), by repeat (first | exact Drawn0.refl _ | apply Drawn0.step)⟩
                    · rw [if_neg c16] at H
                      have c16b0 : decide (268435456 ≤ (rd l0 x45_2)) = false := decide_eq_false c16
                      clear c16
                      have H' := Aside0.mk H
                      clear H
                      have p239 : 0 ≤ (x45_2 : Int) := of_decide_eq_true (by first | (with_reducible assumption) | assumption)
                      have q239 : x45_2 < (l0.length : Int) := of_decide_eq_true (by first | (with_reducible assumption) | assumption)
                      obtain ⟨ad239, e239, hx239_0⟩ := Kd.at_int HR0.out x45_2 p239 q239
                      cases e239
                      replace p239 := eq_true p239
                      replace q239 := eq_true q239
                      go_wp2
                      go_roundg k2
                      case measure => have := HJ1.out; have := HK2.out; omega
                      case rel => exact ⟨(wrap64 (x45_2 + 1)), (by first | rfl | (simp; done) | (simp [*]; done)), H', ⟨by have := HJ1.out; have := HK2.out; omega⟩, by repeat (first | exact Drawn0.refl _ | apply Drawn0.step)⟩
                · rw [if_neg c14] at H
                  exact absurd H (by simp)
              · rw [if_neg c13] at H
                exact absurd H (by simp)
            · rw [if_neg c12] at H
              have c12b0 : decide (x45_2 < (l0.length : Int)) = false := decide_eq_false c12
              clear c12
              obtain rfl := Option.some.inj H
              go_wp2
              go_ret
              exact ⟨by first | rfl | (simp; done) | (simp [*]; done), by repeat (first | exact Drawn0.refl _ | apply Drawn0.step)⟩

/-! ### laws_figures: function 8 -/
def laws_figures.f : Nat → Int → Option (ByteArray)
  | 0, _ => none
  | k + 1, a0 => if a0 < 10 then (if 0 ≤ a0 then (if a0 ≤ (wrap64 (a0 + 1)) then (if (wrap64 (a0 + 1)) ≤ 10 then (some ((⟨#[48, 49, 50, 51, 52, 53, 54, 55, 56, 57]⟩ : ByteArray).extract (a0 : Int).toNat ((wrap64 (a0 + 1)) : Int).toNat)) else (none)) else (none)) else (none)) else ((laws_figures.f k (wrap64 (Int.tdiv a0 10))).bind fun t240 => ((laws_figures.f k (Int.tmod a0 10)).bind fun t241 => (if t240.size + t241.size ≤ 9223372036854775807 then (some (t240 ++ t241)) else (none))))
theorem laws_figures.mono_l : ∀ k, (∀ y0, LeO (laws_figures.f k y0) (laws_figures.f (k + 1) y0))
  | 0 => fun _ r h => by simp [laws_figures.f] at h
  | k + 1 => by
    have ih0 := laws_figures.mono_l k
    · intro y0
      unfold laws_figures.f
      repeat' first
      | (with_reducible exact ih0 _)
      | (with_reducible exact LeO.refl _)
      | (with_reducible exact LeO.none _)
      | (with_reducible refine LeO.ite ?_ ?_)
      | (with_reducible refine LeO.bind ?_ (fun _ => ?_))
      | exact ih0 _
      | exact LeO.none _
      | refine LeO.ite ?_ ?_
      | refine LeO.bind ?_ (fun _ => ?_)
theorem laws_figures.mono : ∀ a0 k, LeO (laws_figures.f k a0) (laws_figures.f (k + 1) a0) := by
  intro a0 k
  have ih0 := laws_figures.mono_l k
  exact ih0 a0
set_option maxHeartbeats 8000000 in
set_option maxRecDepth 100000 in
theorem laws_figures.calls (k : Nat) : ∀ (a0 : Int) (r : ByteArray) (w : World) (h : laws_figures.f k a0 = some r),
    Calls Tryd.prog 8 #[.int .i64 a0] w fun e w' => e = .returned (.string r) ∧ Drawn0 w w' := by
  induction k using Nat.strongRecOn with
  | _ k ih =>
  intro a0 r w h
  cases k with
  | zero => exact absurd h (by simp [laws_figures.f])
  | succ k =>
  simp only [laws_figures.f] at h
  have H : (if a0 < 10 then (if 0 ≤ a0 then (if a0 ≤ (wrap64 (a0 + 1)) then (if (wrap64 (a0 + 1)) ≤ 10 then (some ((⟨#[48, 49, 50, 51, 52, 53, 54, 55, 56, 57]⟩ : ByteArray).extract (a0 : Int).toNat ((wrap64 (a0 + 1)) : Int).toNat)) else (none)) else (none)) else (none)) else ((laws_figures.f k (wrap64 (Int.tdiv a0 10))).bind fun t240 => ((laws_figures.f k (Int.tmod a0 10)).bind fun t241 => (if t240.size + t241.size ≤ 9223372036854775807 then (some (t240 ++ t241)) else (none))))) = some r := h
  clear h
  by_cases c2 : a0 < 10
  · rw [if_pos c2] at H
    have c2b0 : decide (a0 < 10) = true := decide_eq_true c2
    clear c2
    by_cases c3 : 0 ≤ a0
    · rw [if_pos c3] at H
      have c3b0 := eq_true c3
      have c3b1 : decide (0 ≤ a0) = true := decide_eq_true c3
      clear c3
      by_cases c4 : a0 ≤ (wrap64 (a0 + 1))
      · rw [if_pos c4] at H
        have c4b0 := eq_true c4
        have c4b1 : decide (a0 ≤ (wrap64 (a0 + 1))) = true := decide_eq_true c4
        by_cases c5 : (wrap64 (a0 + 1)) ≤ 10
        · rw [if_pos c5] at H
          have c5b0 := eq_true c5
          have c5b1 : decide ((wrap64 (a0 + 1)) ≤ 10) = true := decide_eq_true c5
          obtain rfl := Option.some.inj H
          go_enter Tryd.func8, Tryd.ntmps8
          go_wp2
          go_ret
          exact ⟨by first | rfl | (simp; done) | (simp [*]; done), by repeat (first | exact Drawn0.refl _ | apply Drawn0.step)⟩
        · rw [if_neg c5] at H
          exact absurd H (by simp)
      · rw [if_neg c4] at H
        exact absurd H (by simp)
    · rw [if_neg c3] at H
      exact absurd H (by simp)
  · rw [if_neg c2] at H
    have c2b0 : decide (a0 < 10) = false := decide_eq_false c2
    clear c2
    replace H := Option.bind_eq_some_iff.mp H
    obtain ⟨t240, A60, H⟩ := H
    replace H : ((laws_figures.f k (Int.tmod a0 10)).bind fun t241 => (if t240.size + t241.size ≤ 9223372036854775807 then (some (t240 ++ t241)) else (none))) = some r := H
    have A6 := Aside0.mk A60
    clear A60
    replace H := Option.bind_eq_some_iff.mp H
    obtain ⟨t241, A70, H⟩ := H
    replace H : (if t240.size + t241.size ≤ 9223372036854775807 then (some (t240 ++ t241)) else (none)) = some r := H
    have A7 := Aside0.mk A70
    clear A70
    by_cases c8 : t240.size + t241.size ≤ 9223372036854775807
    · rw [if_pos c8] at H
      have c8b0 := eq_true c8
      have c8b1 : decide (t240.size + t241.size ≤ 9223372036854775807) = true := decide_eq_true c8
      try have c8b2 : (9223372036854775807 < t240.size + t241.size) = False := eq_false (Nat.not_lt.2 c8)
      obtain rfl := Option.some.inj H
      go_enter Tryd.func8, Tryd.ntmps8
      go_wp2_with (first | ((with_reducible refine gate_callee (f := 8) rfl ?_); refine goesL_ (some 11) rfl rfl Tryd.func8 (by kernel_rfl) rfl #[.int .i64 (wrap64 (Int.tdiv a0 10))] rfl (by (try simp only [List.map_toArray, List.map_cons, List.map_nil]); first | done | rfl | (simp only [List.length_drop, List.length_take]; rfl)) ?_; (with_reducible refine (ih k (by omega) (wrap64 (Int.tdiv a0 10)) t240 _ A6.out).mono ?_); rintro e w' ⟨rfl, ⟨nd, rfl⟩⟩; refine ⟨_, rfl, ?_⟩) | ((with_reducible refine gate_callee (f := 8) rfl ?_); refine goesL_ (some 14) rfl rfl Tryd.func8 (by kernel_rfl) rfl #[.int .i64 (Int.tmod a0 10)] rfl (by (try simp only [List.map_toArray, List.map_cons, List.map_nil]); first | done | rfl | (simp only [List.length_drop, List.length_take]; rfl)) ?_; (with_reducible refine (ih k (by omega) (Int.tmod a0 10) t241 _ A7.out).mono ?_); rintro e w' ⟨rfl, ⟨nd, rfl⟩⟩; refine ⟨_, rfl, ?_⟩))
      go_ret
      exact ⟨by first | rfl | (simp; done) | (simp [*]; done), by repeat (first | exact Drawn0.refl _ | apply Drawn0.step)⟩
    · rw [if_neg c8] at H
      exact absurd H (by simp)

-- NOT PRINTED: function 9 (spec_IDBytes)

-- NOT PRINTED: function 3 (laws_FnIDBytes)

/-! ### x509_OID_AppendBinary: function 36 -/
def x509_OID_AppendBinary.f (l0_0 : List Int) (l1 : List Int) : Option (List Int × Option Int) := if l1.length + l0_0.length < 140737488355328 then (some ((l1 ++ l0_0), none)) else (none)
set_option maxHeartbeats 8000000 in
set_option maxRecDepth 100000 in
theorem x509_OID_AppendBinary.calls (A0_0 : Option Addr) (c0_0 : Nat) (l0_0 : List Int) (P1_ : Nat → Prop) (u9000_ : Value) (l1 : List Int) (r1 : List Int) (r2 : Option Int) (w0 w : World) (hB : Below w0.heap.size w0 w) (hr0_0 : ∀ W_, Kept w W_ (fun k_ => P1_ k_) → Kd.C (Kd.int .u8) W_ A0_0 l0_0.length l0_0) (hc0_0 : l0_0.length ≤ c0_0) (ho1 : Kd.R (Kd.int .u8) 5 w w0.heap.size P1_ u9000_ l1) (h : x509_OID_AppendBinary.f l0_0 l1 = some (r1, r2)) :
    Calls Tryd.prog 36 #[.agg #[.slice A0_0 l0_0.length c0_0], u9000_] w fun e w' => ∃ v0_ : Value, e = .returned (.tuple #[v0_, errW r2]) ∧ Kd.R (Kd.int .u8) 5 w' w0.heap.size (fun k_ => (P1_ k_ ∨ w.heap.size ≤ k_)) v0_ r1 ∧ Below w0.heap.size w0 w' ∧ Kept w w' (fun k_ => P1_ k_) := by
  have hu39 := Tryd.underlying39
  have HR0_0 := Aside0.mk hr0_0
  have HC0_0 := Aside0.mk hc0_0
  clear hr0_0 hc0_0
  have HO1 := Aside0.mk (show Kd.R (Kd.int .u8) 5 w w0.heap.size (fun k_ => (P1_ k_ ∨ w.heap.size ≤ k_)) u9000_ l1 from Kd.R_mono ho1 (fun k_ hk => (.inl hk)))
  have HK := Aside0.mk (Kept.refl w (fun k_ => P1_ k_))
  have HW0 := Aside0.mk hB.size
  have HB := Aside0.mk hB
  clear hB
  have H : (if l1.length + l0_0.length < 140737488355328 then (some ((l1 ++ l0_0), none)) else (none)) = some (r1, r2) := h
  clear h
  by_cases c3 : l1.length + l0_0.length < 140737488355328
  · rw [if_pos c3] at H
    have LMc3 := Aside0.mk c3
    clear c3
    obtain ⟨y246, hy246⟩ : ∃ y_ : List Int, y_ = (l1 ++ l0_0) := ⟨_, rfl⟩
    replace H : (some (y246, none)) = some (r1, r2) := by first | (rw [hy246]; with_reducible exact H) | (have H2_ := (Option.bind_some _ _).symm.trans H; rw [hy246]; with_reducible exact H2_) | (have H2_ := (Option.bind_some _ _).symm.trans H; with_reducible exact H2_) | with_reducible exact H | (rw [hy246]; exact H) | exact H
    have Ny246 := Aside0.mk hy246
    clear hy246
    simp only [Option.some.injEq, Prod.mk.injEq] at H
    obtain ⟨rfl, rfl⟩ := H
    go_enter Tryd.func36, Tryd.ntmps36
    go_wp2_with (first | ((with_reducible refine gate_dst (N := 2) rfl ?_); refine box_event ?hg (N := 2) ?hd (cs := #[.slice A0_0 l0_0.length c0_0]) (t := 39) ?hr ?_; (case hd => rfl); (case hg => rfl); (case hr => first | (go_simp; done) | (go_simp; rfl)); intro gb245 hg w4 hbox hb; have n0_ := Aside0.mk (Kd.R_below (by (with_reducible repeat (first | apply Kd.R_alloc | apply Kd.R_drewN | apply Kd.R_drew)); exact HO1.out) hb); have n1_ := Aside0.mk (Kept.below (S := (fun k_ => P1_ k_)) (by repeat (first | (with_reducible first | exact HK.out | apply Kept.alloc | apply Kept.drewN | apply Kept.drew) | exact HK.out)) hb); have n2_ := Aside0.mk (below_step (by repeat (first | (with_reducible first | exact HB.out | apply below_alloc | apply pw_below_drewN | apply below_drew1) | exact HB.out)) hb); have n3_ := Aside0.mk (hbox); have n4_ := Aside0.mk ((by rw [hg]; exact (by first | exact HK.out.1 | exact (show Kept w _ (fun k_ => P1_ k_) from by repeat (first | (with_reducible first | exact HK.out | apply Kept.alloc | apply Kept.drewN | apply Kept.drew) | exact HK.out)).1) : w.heap.size ≤ gb245)); have n5_ := Aside0.mk ((by rw [hg]; exact (below_size (by repeat (first | (with_reducible first | exact HB.out | apply below_alloc | apply pw_below_drewN | apply below_drew1) | exact HB.out))) : w0.heap.size ≤ gb245)); clear HO1; clear HK; clear HB; have HO1 := n0_; have HK := n1_; have HB := n2_; have BK245 := n3_; have GW245 := n4_; have GE245 := n5_; clear n0_ n1_ n2_ n3_ n4_ n5_; clear hb hbox hg; have hcz5_0 : w4.cell? ⟨gb245, 0, none⟩ = some (.slice A0_0 l0_0.length c0_0) := (blk_cell BK245.out 0).trans rfl; have hfz5_0 := blk_frozen BK245.out 0) | ((with_reducible refine gate_builtin (b := .append) (xs := #[.tmp 6, .tmp 8]) rfl ?_); at_builtin; refine Kd.R_append_rows (Kd.int .u8) (w0 := w0) w0.heap.size rfl (.tmp 6) (.tmp 8) 23 5 (.int .u8 0) 1 rfl Tryd.underlying23 info5 rfl (by decide) (by omega) u9000_ l1 l0_0 _ _ _ (fun k_ => (P1_ k_ ∨ w.heap.size ≤ k_)) (fun _ => False) rfl rfl ?aO ?aR (fun _ _ h => h) (fun _ h => h.elim) ?aF ?aB ?aS ?aL ?_; (case aR => exact Kd.C_kept_now HR0_0.out (by repeat (first | (with_reducible first | exact HK.out | apply Kept.alloc | apply Kept.drewN | apply Kept.drew | refine Kept.setCell ?_ (.inr GW245.out) _) | exact HK.out))); (case aB => exact (by repeat (first | (with_reducible first | exact HB.out | apply below_alloc | apply pw_below_drewN | apply below_drew1 | refine below_set ?_ GE245.out) | exact HB.out))); (case aF => exact (fun k_ hk => (.inr (Nat.le_trans (by first | exact HK.out.1 | exact (show Kept w _ (fun k_ => P1_ k_) from by repeat (first | (with_reducible first | exact HK.out | apply Kept.alloc | apply Kept.drewN | apply Kept.drew | refine Kept.setCell ?_ (.inr GW245.out) _) | exact HK.out)).1) hk)))); (case aO => exact (by (with_reducible repeat (first | apply Kd.R_alloc | apply Kd.R_drewN | apply Kd.R_drew)); exact HO1.out)); (case aS => exact (below_size (by repeat (first | (with_reducible first | exact HB.out | apply below_alloc | apply pw_below_drewN | apply below_drew1 | refine below_set ?_ GE245.out) | exact HB.out)))); (case aL => have := LMc3.out; omega); intro v247 w6 ho hb hg hat; rw [← Ny246.out] at ho; have n0_ := Aside0.mk (blk_grown (g := gb245) (o := .cells #[.slice A0_0 l0_0.length c0_0] 39 (0, 0)) (by (with_reducible repeat (first | refine blk_drewN ?_ _ | refine blk_drew ?_ | refine blk_alloc ?_ _)); exact BK245.out) hg (Kd.R_ne HO1.out BK245.out (by decide))); have n1_ := Aside0.mk (hb); have n2_ := Aside0.mk (Kept.of_grown (S := (fun k_ => P1_ k_)) hg (by repeat (first | (with_reducible first | exact HK.out | apply Kept.alloc | apply Kept.drewN | apply Kept.drew | refine Kept.setCell ?_ (.inr GW245.out) _) | exact HK.out)) (fun k_ e_ => (HO1.out.1 k_ e_))); have n3_ := Aside0.mk (ho); clear BK245; clear HB; clear HK; clear HO1; have BK245 := n0_; have HB := n1_; have HK := n2_; have HO248 := n3_; clear n0_ n1_ n2_ n3_; clear ho hb hg hat))
    go_ret2
    exact ⟨_, by first | rfl | (simp [errW_none, errW_some] <;> rfl) | (simp [*, errW_none, errW_some] <;> rfl), by (with_reducible repeat (first | apply Kd.R_alloc | apply Kd.R_drewN | apply Kd.R_drew)); exact HO248.out, by repeat (first | (with_reducible first | exact HB.out | apply below_alloc | apply pw_below_drewN | apply below_drew1 | refine below_set ?_ GE245.out) | exact HB.out), by repeat (first | (with_reducible first | exact HK.out | apply Kept.alloc | apply Kept.drewN | apply Kept.drew | refine Kept.setCell ?_ (.inr GW245.out) _) | exact HK.out)⟩
  · rw [if_neg c3] at H
    exact absurd H (by simp)

/-! ### x509_OID_MarshalBinary: function 16 -/
def x509_OID_MarshalBinary.f (l0_0 : List Int) : Option (List Int × Option Int) := (x509_OID_AppendBinary.f l0_0 ([] : List Int)).bind fun bt250 => (some (bt250.1, bt250.2))
set_option maxHeartbeats 8000000 in
set_option maxRecDepth 100000 in
theorem x509_OID_MarshalBinary.calls (A0_0 : Option Addr) (c0_0 : Nat) (l0_0 : List Int) (r1 : List Int) (r2 : Option Int) (w : World) (hr0_0 : Kd.C (Kd.int .u8) w A0_0 l0_0.length l0_0) (hc0_0 : l0_0.length ≤ c0_0) (h : x509_OID_MarshalBinary.f l0_0 = some (r1, r2)) :
    Calls Tryd.prog 16 #[.agg #[.slice A0_0 l0_0.length c0_0]] w fun e w' => ∃ v0_ : Value, e = .returned (.tuple #[v0_, errW r2]) ∧ Kd.R (Kd.int .u8) 5 w' w.heap.size (fun _ => True) v0_ r1 ∧ Below w.heap.size w w' := by
  have hu39 := Tryd.underlying39
  have HR0_0 := Aside0.mk hr0_0
  have HC0_0 := Aside0.mk hc0_0
  clear hr0_0 hc0_0
  have HB := Aside0.mk (Below.refl w.heap.size w)
  have H : ((x509_OID_AppendBinary.f l0_0 ([] : List Int)).bind fun bt250 => (some (bt250.1, bt250.2))) = some (r1, r2) := h
  clear h
  replace H := Option.bind_eq_some_iff.mp H
  obtain ⟨⟨t250, t253⟩, A20, H⟩ := H
  replace H : (some (t250, t253)) = some (r1, r2) := H
  have A2 := Aside0.mk A20
  clear A20
  simp only [Option.some.injEq, Prod.mk.injEq] at H
  obtain ⟨rfl, rfl⟩ := H
  go_enter Tryd.func16, Tryd.ntmps16
  go_wp2_with (first | ((with_reducible refine gate_dst (N := 1) rfl ?_); refine box_event ?hg (N := 1) ?hd (cs := #[.slice A0_0 l0_0.length c0_0]) (t := 39) ?hr ?_; (case hd => rfl); (case hg => rfl); (case hr => first | (go_simp; done) | (go_simp; rfl)); intro gb249 hg w3 hbox hb; have n0_ := Aside0.mk (below_step (by repeat (first | (with_reducible first | exact HB.out | apply below_alloc | apply pw_below_drewN | apply below_drew1) | exact HB.out)) hb); have n1_ := Aside0.mk (hbox); have n2_ := Aside0.mk ((by rw [hg]; exact (below_size (by repeat (first | (with_reducible first | exact HB.out | apply below_alloc | apply pw_below_drewN | apply below_drew1) | exact HB.out))) : w.heap.size ≤ gb249)); have n3_ := Aside0.mk ((by rw [hg]; exact (below_size (by repeat (first | (with_reducible first | exact HB.out | apply below_alloc | apply pw_below_drewN | apply below_drew1) | exact HB.out))) : w.heap.size ≤ gb249)); clear HB; have HB := n0_; have BK249 := n1_; have GW249 := n2_; have GE249 := n3_; clear n0_ n1_ n2_ n3_; clear hb hbox hg; have hcz4_0 : w3.cell? ⟨gb249, 0, none⟩ = some (.slice A0_0 l0_0.length c0_0) := (blk_cell BK249.out 0).trans rfl; have hfz4_0 := blk_frozen BK249.out 0) | ((with_reducible refine gate_callee (f := 36) rfl ?_); refine goesL_ (some 5) rfl rfl Tryd.func36 (by kernel_rfl) rfl #[.agg #[.slice A0_0 l0_0.length c0_0], .slice none 0 0] rfl (by (try simp only [List.map_toArray, List.map_cons, List.map_nil]); first | done | rfl | (simp only [List.length_drop, List.length_take]; rfl)) ?_; (refine (x509_OID_AppendBinary.calls _ _ l0_0 (fun k_ => some k_ = (.slice none 0 0 : Value).ownBlock) (.slice none 0 0) ([] : List Int) t250 t253 w _ ?side1 ?side2 ?side3 ?side4 A2.out).mono ?_); (case side1 => repeat (first | (with_reducible first | exact HB.out | apply below_alloc | apply pw_below_drewN | apply below_drew1 | refine below_set ?_ GE249.out) | exact HB.out)); (case side2 => exact Kd.C_kept_came (Kd.heap_int .u8) HR0_0.out (by repeat (first | (with_reducible first | exact HB.out | apply below_alloc | apply pw_below_drewN | apply below_drew1 | refine below_set ?_ GE249.out) | exact HB.out)) (fun k_ hs_ => (fun e_ => by simp [Value.ownBlock] at e_) hs_)); (case side3 => exact HC0_0.out); (case side4 => exact Kd.R_nil _ _ _ _ _); rintro e w5 ⟨v251, rfl, ho0, hb, hkp⟩; refine ⟨_, rfl, ?_⟩; have n0_ := Aside0.mk (blk_kept (by (with_reducible repeat (first | refine blk_drewN ?_ _ | refine blk_drew ?_ | refine blk_alloc ?_ _)); exact BK249.out) hkp (fun hs_ => (fun e_ => by simp [Value.ownBlock] at e_) hs_)); have n1_ := Aside0.mk (Kd.R_mono (ok' := fun k_ => True) ho0 (fun k_ hk_ => trivial)); have n2_ := Aside0.mk (hb); clear BK249; clear HB; have BK249 := n0_; have HO252 := n1_; have HB := n2_; clear n0_ n1_ n2_; (try clear hb); (try clear hkp); (try clear ho0); (try simp only [errW_none, errW_some])))
  go_ret2
  exact ⟨_, by first | rfl | (simp [errW_none, errW_some] <;> rfl) | (simp [*, errW_none, errW_some] <;> rfl), by (with_reducible repeat (first | apply Kd.R_alloc | apply Kd.R_drewN | apply Kd.R_drew)); exact HO252.out, by repeat (first | (with_reducible first | exact HB.out | apply below_alloc | apply pw_below_drewN | apply below_drew1 | refine below_set ?_ GE249.out) | exact HB.out)⟩

end Go.Proofs.YtiopgkdldkkonaaDoor.Pn

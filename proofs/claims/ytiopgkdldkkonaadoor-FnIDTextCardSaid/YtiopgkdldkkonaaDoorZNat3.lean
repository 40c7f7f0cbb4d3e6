/-
  PLAIN LEAN: what the printed function 'text' of the package's whole numbers comes to at base 10: the decimal digits, the highest first. No program is walked here.
-/
import Derived.Test.YtiopgkdldkkonaaDoorZNat
import Derived.Test.YtiopgkdldkkonaaDoorZP8
import Derived.Lib.ItoaNum
namespace Go.Proofs.YtiopgkdldkkonaaDoor.Num
open Go.Proofs.YtiopgkdldkkonaaDoorW.PrintWords Go.Proofs.YtiopgkdldkkonaaDoorW.PrintMore Go.RowKit Go.Proofs.YtiopgkdldkkonaaDoor.Pn

/-- A number's decimal digits as bytes, the lowest first (0: none). -/
def rv (n : Nat) : List Int := if h : n = 0 then [] else ((48 + n % 10 : Nat) : Int) :: rv (n / 10)
termination_by n
decreasing_by omega
theorem rv_zero : rv 0 = [] := by unfold rv; simp
theorem rv_pos {n : Nat} (h : n ≠ 0) : rv n = ((48 + n % 10 : Nat) : Int) :: rv (n / 10) := by rw [rv]; simp [h]
def ints (l : List UInt8) : List Int := l.map fun x => (x.toNat : Int)
theorem rv_dec {n : Nat} (h : n ≠ 0) : (rv n).reverse = ints (Lib.decDigits n) := by
  induction n using Nat.strongRecOn with
  | ind n ih =>
    have hb : ∀ d : Nat, d < 10 → (UInt8.ofNat (48 + d)).toNat = 48 + d := fun d hd => by simp; omega
    rw [rv_pos h, Lib.decDigits]
    by_cases h10 : n < 10
    · rw [dif_pos h10, show n / 10 = 0 from by omega, rv_zero, show n % 10 = n from by omega]
      simp [ints]; omega
    · rw [dif_neg h10, List.reverse_cons, ih _ (by omega) (by omega)]
      simp only [ints, List.map_append, List.map_cons, List.map_nil]
      rw [hb _ (by omega)]
theorem rv_len {n m : Nat} (h : n < 10 ^ m) : (rv n).length ≤ m := by
  induction m generalizing n with
  | zero => have : n = 0 := by simpa using h
            subst this; rw [rv_zero]; simp
  | succ m ih =>
    by_cases e : n = 0
    · subst e; rw [rv_zero]; simp
    · rw [rv_pos e, List.length_cons]
      have := ih (n := n / 10) (by rw [Nat.pow_succ] at h; omega)
      omega

/-! ### the turning round -/
theorem text_l3 : ∀ (n : Nat) (a m b : List Int), m.length = n → a.length + m.length + b.length < 4611686018427387904 →
    Ev (fun k => smallbig_nat_text.l3 k (a ++ m ++ b) (a.length : Int) ((a.length : Int) + m.length - 1)) (a ++ m.reverse ++ b) := by
  intro n
  induction n using Nat.strongRecOn with
  | ind n ih =>
    intro a m b hm hlen
    by_cases h2 : n < 2
    · refine Ev.step (f := fun _ => some (a ++ m ++ b)) (fun k => ?_) ?_
      · simp only [smallbig_nat_text.l3]
        rw [if_neg (by omega)]
      · have : m.reverse = m := by
          match m, hm with
          | [], _ => rfl
          | [x], _ => rfl
          | _ :: _ :: _, hm => simp at hm; omega
        rw [this]; exact Ev.now _
    · obtain ⟨x, m1, rfl⟩ : ∃ x m1, m = x :: m1 := by
        match m, hm with
        | [], hm => simp at hm; omega
        | x :: m1, _ => exact ⟨x, m1, rfl⟩
      rcases List.eq_nil_or_concat m1 with rfl | ⟨m2, y, rfl⟩
      · simp at hm; omega
      simp only [List.concat_eq_append] at *
      have hm2 : m2.length + 2 = n := by simpa using hm
      have e1 : a ++ (x :: (m2 ++ [y])) ++ b = a ++ x :: (m2 ++ y :: b) := by simp
      have e2 : a ++ (x :: (m2 ++ [y])) ++ b = (a ++ x :: m2) ++ y :: b := by simp
      have el : ((a ++ (x :: (m2 ++ [y])) ++ b).length : Int) = a.length + n + b.length := by simp; omega
      have ej : (a.length : Int) + ((x :: (m2 ++ [y])).length : Nat) - 1 = ((a ++ x :: m2).length : Int) := by simp; omega
      simp only [List.length_cons, List.length_append, List.length_nil] at hlen
      have key := ih (n - 2) (by omega) (a ++ [y]) m2 (x :: b) (by omega) (by simp; omega)
      have hxa : ((a ++ x :: m2).length : Int) = a.length + m2.length + 1 := by simp; omega
      refine Ev.step (f := fun k => smallbig_nat_text.l3 k ((a ++ [y]) ++ m2 ++ (x :: b)) (((a ++ [y]).length : Nat) : Int) ((((a ++ [y]).length : Nat) : Int) + m2.length - 1)) (fun k => ?_) ?_
      · simp only [smallbig_nat_text.l3]
        rw [ej, el, hxa, if_pos (by omega), if_pos (by omega), if_pos (by omega), if_pos (by omega), if_pos (by omega)]
        rw [← hxa]
        rw [show rd (a ++ x :: (m2 ++ [y]) ++ b) ((a ++ x :: m2).length : Int) = y from by rw [e2]; exact rd_mid _ _ _ rfl]
        rw [show rd (a ++ x :: (m2 ++ [y]) ++ b) (a.length : Int) = x from by rw [e1]; exact rd_mid _ _ _ rfl]
        rw [Int.toNat_natCast, Int.toNat_natCast]
        have s1 : (a ++ x :: (m2 ++ [y]) ++ b).set a.length y = (a ++ y :: m2) ++ y :: b := by rw [e1, set_mid a _ x y rfl]; simp
        rw [s1, set_mid (a ++ y :: m2) b y x (by simp), hxa, w64 (by omega) (by omega), w64 (by omega) (by omega)]
        have s2 : (a ++ y :: m2) ++ x :: b = (a ++ [y]) ++ m2 ++ (x :: b) := by simp
        rw [s2]
        congr 1
        · simp
        · simp; omega
      · have e3 : a ++ (x :: (m2 ++ [y])).reverse ++ b = (a ++ [y]) ++ m2.reverse ++ (x :: b) := by simp
        rw [e3]; exact key
theorem text_j4 (s : List Int) (hs : s.length < 4611686018427387904) : Ev (fun k => smallbig_nat_text.j4 k s) s.reverse := by
  refine Ev.step (f := fun k => smallbig_nat_text.l3 k s 0 ((s.length : Int) - 1)) (fun k => ?_) ?_
  · simp only [smallbig_nat_text.j4]
    rw [w64 (by omega) (by omega)]
  · have := text_l3 s.length [] s [] rfl (by simp; omega)
    simpa using this

/-! ### the digits -/
def dtab : ByteArray := ⟨#[48, 49, 50, 51, 52, 53, 54, 55, 56, 57, 97, 98, 99, 100, 101, 102, 103, 104, 105, 106, 107, 108, 109, 110, 111, 112, 113, 114, 115, 116, 117, 118, 119, 120, 121, 122, 65, 66, 67, 68, 69, 70, 71, 72, 73, 74, 75, 76, 77, 78, 79, 80, 81, 82, 83, 84, 85, 86, 87, 88, 89, 90]⟩
theorem dtab_at : ∀ d : Nat, d < 10 → bt dtab (d : Int) = ((48 + d : Nat) : Int) := by decide
theorem p10 : ∀ i : Nat, i < 9 → 10 ^ (9 - i) = 10 * 10 ^ (9 - (i + 1)) := by decide
theorem p10_le : ∀ i : Nat, i ≤ 9 → 10 ^ (9 - i) ≤ 1000000000 := by decide

/-- One more digit. -/
theorem text_digit (q r i : Nat) (s : List Int) (hq : (dg q).length < 4611686018427387904) (hr : r < 10 ^ (9 - i)) (hi : i < 9) (hV : q ≠ 0 ∨ r ≠ 0) (hs : s.length < 1000000) (k : Nat) :
    smallbig_nat_text.l2 (k + 1) (dg q) false 10 1000000000 9 s (r : Int) (i : Int) = smallbig_nat_text.l2 k (dg q) false 10 1000000000 9 (s ++ [((48 + r % 10 : Nat) : Int)]) ((r / 10 : Nat) : Int) ((i + 1 : Nat) : Int) := by
  have hr2 : r < 1000000000 := Nat.lt_of_lt_of_le hr (p10_le i (by omega))
  have hm : Int.tmod (r : Int) (10 % 4294967296) = ((r % 10 : Nat) : Int) := by rw [show (10 : Int) % 4294967296 = ((10 : Nat) : Int) from by decide, ← Int.ofNat_tmod]
  have hd : Int.tdiv (r : Int) (10 % 4294967296) % 4294967296 = ((r / 10 : Nat) : Int) := by rw [show (10 : Int) % 4294967296 = ((10 : Nat) : Int) from by decide, ← Int.ofNat_tdiv]; omega
  have hb := dtab_at (r % 10) (by omega)
  unfold dtab at hb
  simp only [smallbig_nat_text.l2]
  rw [hm, hd, hb, w64 (x := (i : Int) + 1) (by omega) (by omega), if_pos (by omega)]
  by_cases e : q = 0
  · subst e
    rw [dg_zero, if_neg (by simp), if_pos (by omega), if_neg (by decide), if_pos (by omega), if_pos (by omega), if_pos (by omega)]
    rfl
  · have := dg_len_pos e
    rw [if_pos (by omega), if_neg (by decide), if_pos (by omega), if_pos (by omega), if_pos (by omega)]
    rfl

theorem text_l2 : ∀ (V q r i : Nat) (s : List Int), V = r + q * 10 ^ (9 - i) → r < 10 ^ (9 - i) → i ≤ 9 → (dg q).length < 70368744177000 → s.length + (rv V).length < 1000000 →
    Ev (fun k => smallbig_nat_text.l2 k (dg q) false 10 1000000000 9 s (r : Int) (i : Int)) (s ++ rv V).reverse := by
  intro V
  induction V using Nat.strongRecOn with
  | ind V ih =>
    intro q r i s hV hr hi hq hs
    by_cases hz : q = 0 ∧ r = 0
    · obtain ⟨rfl, rfl⟩ := hz
      obtain rfl : V = 0 := by simpa using hV
      rw [rv_zero, List.append_nil]
      rw [rv_zero] at hs
      have hj : Ev (fun k => smallbig_nat_text.l1 k [] false 10 1000000000 9 s) s.reverse := by
        refine Ev.step (f := fun k => smallbig_nat_text.j4 k s) (fun k => ?_) (text_j4 s (by simp at hs; omega))
        simp only [smallbig_nat_text.l1]
        rw [if_neg (by simp), if_neg (by simp)]
      refine Ev.step (f := fun k => smallbig_nat_text.l1 k [] false 10 1000000000 9 s) (fun k => ?_) hj
      simp only [smallbig_nat_text.l2]
      rw [dg_zero]
      by_cases h9 : i < 9
      · rw [if_pos (by omega), if_neg (by simp), if_neg (by simp)]
      · rw [if_neg (by omega)]
    · -- a digit at i < 9
      have one : ∀ (q r i : Nat), V = r + q * 10 ^ (9 - i) → r < 10 ^ (9 - i) → i < 9 → (q ≠ 0 ∨ r ≠ 0) → (dg q).length < 70368744177000 →
          Ev (fun k => smallbig_nat_text.l2 k (dg q) false 10 1000000000 9 s (r : Int) (i : Int)) (s ++ rv V).reverse := by
        intro q r i hV hr hi hne hq
        have hp := p10 i hi
        have hpos : 0 < 10 ^ (9 - (i + 1)) := Nat.pow_pos (by omega)
        have hr' := hr
        rw [hp] at hV hr
        obtain ⟨P, hP⟩ : ∃ P, P = 10 ^ (9 - (i + 1)) := ⟨_, rfl⟩
        rw [← hP] at hV hr hpos
        have hV0 : V ≠ 0 := by
          rcases hne with h | h
          · have : 1 * (10 * P) ≤ q * (10 * P) := Nat.mul_le_mul_right _ (by omega)
            omega
          · omega
        have e1 : q * (10 * P) = 10 * (q * P) := by rw [Nat.mul_left_comm]
        rw [e1] at hV
        have hVm : V % 10 = r % 10 := by omega
        have hVd : V / 10 = r / 10 + q * P := by omega
        rw [rv_pos hV0] at hs
        simp only [List.length_cons] at hs
        have key := ih (V / 10) (by omega) q (r / 10) (i + 1) (s ++ [((48 + r % 10 : Nat) : Int)]) (by rw [← hP]; exact hVd) (by rw [← hP]; omega) (by omega) hq (by simp; omega)
        refine Ev.step (fun k => text_digit q r i s (by omega) hr' hi hne (by omega) k) ?_
        rw [rv_pos hV0, hVm]
        simpa using key
      by_cases h9 : i < 9
      · exact one q r i hV hr h9 (by omega) hq
      · obtain rfl : i = 9 := by omega
        have hr0 : r = 0 := by simpa using hr
        subst hr0
        have hVq : V = q := by simpa using hV
        have hq0 : q ≠ 0 := by intro e; exact hz ⟨e, rfl⟩
        have hlp := dg_len_pos hq0
        refine Ev.step (f := fun k => smallbig_nat_text.l1 k (dg q) false 10 1000000000 9 s) (fun k => ?_) ?_
        · simp only [smallbig_nat_text.l2]
          rw [if_neg (by omega)]
        · have hone := one (q / 1000000000) (q % 1000000000) 0 (by rw [hVq]; have := Nat.div_add_mod q 1000000000; omega) (by have := Nat.mod_lt q (show 0 < 1000000000 by omega); simpa using this) (by omega) (by omega) (by
            have : dg (q / 1000000000) = dg (q / 1000000000) := rfl
            have h1 : q / 1000000000 < 4294967296 ^ (dg q).length := Nat.lt_of_le_of_lt (Nat.div_le_self _ _) (lt_dg_len q)
            have := dg_len_le h1; omega)
          obtain ⟨K, hK⟩ := hone
          refine ⟨K + 1 + (2 * (dg q).length + 5), fun n hn => ?_⟩
          obtain ⟨k, rfl⟩ : ∃ m, n = m + 1 := ⟨n - 1, by omega⟩
          simp only [smallbig_nat_text.l1]
          rw [if_pos (by omega), show (1000000000 : Int) % 4294967296 = ((1000000000 : Nat) : Int) from by decide, divW_f q 1000000000 (by omega) (by omega) hq (by omega)]
          simp only [Option.bind_some]
          exact hK k (by omega)

theorem text_l0 (k : Nat) (x0 : List Int) (x1 : Bool) : smallbig_nat_text.l0 (k + 9) x0 x1 10 10 1 = smallbig_nat_text.l1 k x0 x1 10 1000000000 9 [] := by
  have go : ∀ (k : Nat) (x7 x8 y7 y8 : Int), IntKind.u64.wrap (x7 * (IntKind.u64.wrap 10)) = y7 → y7 < 4294967296 → wrap64 (x8 + 1) = y8 → smallbig_nat_text.l0 (k + 1) x0 x1 10 x7 x8 = smallbig_nat_text.l0 k x0 x1 10 y7 y8 := by
    intro k x7 x8 y7 y8 h1 h2 h3
    simp only [smallbig_nat_text.l0]
    rw [h1, h3, if_pos h2]
  rw [go (k + 8) 10 1 100 2 (by decide) (by decide) (w64 (by decide) (by decide)), go (k + 7) 100 2 1000 3 (by decide) (by decide) (w64 (by decide) (by decide)), go (k + 6) 1000 3 10000 4 (by decide) (by decide) (w64 (by decide) (by decide)), go (k + 5) 10000 4 100000 5 (by decide) (by decide) (w64 (by decide) (by decide)), go (k + 4) 100000 5 1000000 6 (by decide) (by decide) (w64 (by decide) (by decide)), go (k + 3) 1000000 6 10000000 7 (by decide) (by decide) (w64 (by decide) (by decide)), go (k + 2) 10000000 7 100000000 8 (by decide) (by decide) (w64 (by decide) (by decide)), go (k + 1) 100000000 8 1000000000 9 (by decide) (by decide) (w64 (by decide) (by decide))]
  simp only [smallbig_nat_text.l0]
  rw [if_neg (by decide)]

/-- THE TEXT OF A NUMBER: its decimal digits. -/
theorem text_f {n : Nat} (h : n ≠ 0) (hd : (rv n).length < 1000000) (hq : (dg n).length < 70368744177000) :
    Ev (fun k => smallbig_nat_text.f k (dg n) false 10) (ints (Lib.decDigits n)) := by
  have hlp := dg_len_pos h
  have h9 := text_l2 n n 0 9 [] (by simp) (by decide) (by omega) hq (by simpa using hd)
  simp only [List.nil_append] at h9
  rw [rv_dec h] at h9
  -- from the chunk loop's end back to the head
  have hl1 : Ev (fun k => smallbig_nat_text.l1 k (dg n) false 10 1000000000 9 []) (ints (Lib.decDigits n)) := by
    obtain ⟨K, hK⟩ := h9
    refine ⟨K, fun m hm => ?_⟩
    have := hK (m + 1) (by omega)
    simp only [smallbig_nat_text.l2] at this
    rw [if_neg (by omega)] at this
    exact this
  obtain ⟨K, hK⟩ := hl1
  refine ⟨K + 10, fun m hm => ?_⟩
  obtain ⟨k, rfl⟩ : ∃ j, m = j + 9 + 1 := ⟨m - 10, by omega⟩
  show smallbig_nat_text.f (k + 9 + 1) (dg n) false 10 = some (ints (Lib.decDigits n))
  unfold smallbig_nat_text.f
  rw [if_neg (by decide), show decide ((10 : Int) > 62) = false from by decide]
  simp only [smallbig_nat_text.j0]
  rw [if_neg (by decide), if_neg (by omega), show IntKind.u64.wrap 10 = 10 from by decide, text_l0]
  exact hK k (by omega)
end Go.Proofs.YtiopgkdldkkonaaDoor.Num

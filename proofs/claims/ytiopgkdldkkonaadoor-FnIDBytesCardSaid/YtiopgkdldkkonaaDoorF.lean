/-
  PLAIN LEAN: the text of an identifier's bytes; what the printed IsID and figures come to.
-/
import Derived.Test.YtiopgkdldkkonaaDoorE2
namespace Go.Proofs.YtiopgkdldkkonaaDoor
open Go.RowKit Go.Proofs.YtiopgkdldkkonaaDoorW.PrintWords Go.Proofs.YtiopgkdldkkonaaDoorW.PrintMore Go.Proofs.YtiopgkdldkkonaaDoor.Num Go.Proofs.YtiopgkdldkkonaaDoor.Pn
set_option linter.unusedVariables false
set_option linter.unusedSimpArgs false

/-- The text of the numbers behind the first. -/
def dots : List Nat → List UInt8
  | [] => []
  | x :: t => [46] ++ Lib.decDigits x ++ dots t
/-- The text of numbers. -/
def joinDots : List Nat → List UInt8
  | [] => []
  | x :: t => Lib.decDigits x ++ dots t

theorem encAll_cons (x : Nat) (t : List Nat) : encAll (x :: t) = enc x ++ encAll t := by simp [encAll]
theorem encAll_oid (l : List Nat) : ∀ out, oidGo (encAll l) false 0 out = out ++ dots l := by
  induction l with
  | nil => intro out; simp [encAll, oidGo, dots]
  | cons x t ih =>
    intro out
    rw [encAll_cons, enc_oid, if_neg (by simp), ih, dots]
    simp
theorem encAll_ok (l : List Nat) : okGo true (encAll l) = true := by
  induction l with
  | nil => rfl
  | cons x t ih => rw [encAll_cons, enc_ok, ih]
theorem enc_ne (n : Nat) : enc n ≠ [] := by
  unfold enc; simp
theorem idEnc_ok (a b : Nat) (l : List Nat) : okBytes (idEnc a b l) = true := by
  unfold okBytes
  rw [if_neg (by unfold idEnc; intro h; exact enc_ne _ (List.append_eq_nil_iff.1 h).1)]
  unfold idEnc
  rw [enc_ok, encAll_ok]
theorem dec2 : Lib.decDigits 2 = [50] := by unfold Lib.decDigits; simp
theorem head1_eq {a b : Nat} (ha : a ≤ 2) (hb : a < 2 → b ≤ 39) : head1 (40 * a + b) = Lib.decDigits a ++ [46] ++ Lib.decDigits b := by
  unfold head1
  by_cases h : a < 2
  · have := hb h
    rw [if_pos (by omega), show (40 * a + b) / 40 = a from by omega, show (40 * a + b) % 40 = b from by omega]
  · obtain rfl : a = 2 := by omega
    rw [if_neg (by omega), show 40 * 2 + b - 80 = b from by omega, dec2]
    rfl
theorem idEnc_text {a b : Nat} (l : List Nat) (ha : a ≤ 2) (hb : a < 2 → b ≤ 39) : oidText (idEnc a b l) = joinDots (a :: b :: l) := by
  unfold oidText idEnc
  rw [enc_oid, if_pos rfl, encAll_oid, head1_eq ha hb]
  simp [joinDots, dots]

/-! ### figures -/
def dig10 : ByteArray := ⟨#[48, 49, 50, 51, 52, 53, 54, 55, 56, 57]⟩
theorem dig10_at : ∀ n : Nat, n < 10 → (dig10.extract n (n + 1)).data.toList = [UInt8.ofNat (48 + n)] := by decide
theorem figures_f (n : Nat) (hn : n < 1000000000) : Ev (fun k => laws_figures.f k (n : Int)) ⟨(Lib.decDigits n).toArray⟩ := by
  induction n using Nat.strongRecOn with
  | ind n ih =>
    by_cases h : n < 10
    · refine Ev.step (f := fun _ => some ⟨(Lib.decDigits n).toArray⟩) (fun k => ?_) (Ev.now _)
      simp only [laws_figures.f]
      rw [if_pos (by omega), if_pos (by omega), w64 (by omega) (by omega), if_pos (by omega), if_pos (by omega)]
      congr 1
      have := dig10_at n h
      unfold dig10 at this
      rw [show ((n : Int) + 1).toNat = n + 1 from by omega, Int.toNat_natCast]
      apply ByteArray.ext
      apply Array.toList_inj.1
      rw [this]
      unfold Lib.decDigits
      rw [dif_pos h]
    · have h1 := ih (n / 10) (by omega) (by omega)
      have h2 := ih (n % 10) (by omega) (by omega)
      refine Ev.step (f := fun k => (laws_figures.f k ((n / 10 : Nat) : Int)).bind fun t240 => ((laws_figures.f k ((n % 10 : Nat) : Int)).bind fun t241 => (if t240.size + t241.size ≤ 9223372036854775807 then (some (t240 ++ t241)) else (none)))) (fun k => ?_) ?_
      · simp only [laws_figures.f]
        rw [if_neg (by omega)]
        have e1 : Int.tdiv (n : Int) 10 = ((n / 10 : Nat) : Int) := by rw [show (10 : Int) = ((10 : Nat) : Int) from rfl, ← Int.ofNat_tdiv]
        have e2 : Int.tmod (n : Int) 10 = ((n % 10 : Nat) : Int) := by rw [show (10 : Int) = ((10 : Nat) : Int) from rfl, ← Int.ofNat_tmod]
        rw [e1, e2, w64 (by omega) (by omega)]
      · refine Ev.bind h1 (Ev.bind h2 ?_)
        have hsz : (⟨(Lib.decDigits (n / 10)).toArray⟩ : ByteArray).size + (⟨(Lib.decDigits (n % 10)).toArray⟩ : ByteArray).size ≤ 9223372036854775807 := by
          have l1 := dec_le (n := n / 10) (Nat.lt_trans (show n / 10 < 128 ^ 5 by omega) (by unfold lim; decide))
          have l2 := dec_le (n := n % 10) (Nat.lt_trans (show n % 10 < 128 ^ 5 by omega) (by unfold lim; decide))
          simp [ByteArray.size]; omega
        refine Ev.congr (f := fun _ => some ⟨(Lib.decDigits n).toArray⟩) (fun k => ?_) (Ev.now _)
        rw [if_pos hsz]
        congr 1
        apply ByteArray.ext
        apply Array.toList_inj.1
        rw [ByteArray.data_append]
        have e : Lib.decDigits n = Lib.decDigits (n / 10) ++ Lib.decDigits (n % 10) := by
          conv => lhs; unfold Lib.decDigits
          rw [dif_neg h]
          congr 1
          unfold Lib.decDigits
          rw [dif_pos (by omega)]
        rw [e]
        simp

/-! ### IsID -/
def inR (x : Int) : Bool := decide (0 ≤ x ∧ x < 268435456)
theorem isIDl_l0 (l : List Int) (hl : l.length < 4611686018427387904) : ∀ (d i : Nat), i + d = l.length →
    Ev (fun k => spec_IsID.l0 k l (l.length : Int) (i : Int)) ((l.drop i).all inR) := by
  intro d
  induction d with
  | zero =>
    intro i hi
    obtain rfl : i = l.length := by omega
    refine Ev.step (f := fun _ => some true) (fun k => ?_) (by rw [List.drop_length]; exact Ev.now _)
    simp only [spec_IsID.l0]
    rw [if_neg (by omega)]
  | succ d ih =>
    intro i hi
    have hlt : i < l.length := by omega
    have hdr : l.drop i = l[i] :: l.drop (i + 1) := List.drop_eq_getElem_cons hlt
    have hrd : rd l (i : Int) = l[i] := by
      unfold rd; rw [Int.toNat_natCast, List.getD_eq_getElem?_getD, List.getElem?_eq_getElem hlt]; rfl
    rw [hdr, List.all_cons]
    have hstep : ∀ k, spec_IsID.l0 (k + 1) l (l.length : Int) (i : Int) = if inR l[i] = true then spec_IsID.l0 k l (l.length : Int) ((i + 1 : Nat) : Int) else some false := by
      intro k
      simp only [spec_IsID.l0]
      rw [if_pos (by omega), if_pos (by omega), if_pos (by omega), hrd, w64 (by omega) (by omega)]
      unfold inR
      by_cases h1 : l[i] < 0
      · rw [if_pos h1, if_neg (by simp; omega)]
      · rw [if_neg h1]
        by_cases h2 : l[i] ≥ 268435456
        · rw [if_pos h2, if_neg (by simp; omega)]
        · rw [if_neg h2, if_pos (by simp; omega)]; rfl
    by_cases hb : inR l[i] = true
    · rw [hb, Bool.true_and]
      refine Ev.step (fun k => ?_) (ih (i + 1) (by omega))
      rw [hstep, if_pos hb]
    · rw [Bool.eq_false_iff.2 hb, Bool.false_and]
      refine Ev.step (f := fun _ => some false) (fun k => ?_) (Ev.now _)
      rw [hstep, if_neg hb]

/-- What IsID says yes to. -/
def GoodID (l : List Int) : Prop := ∃ (a b : Nat) (t : List Nat), l = nats (a :: b :: t) ∧ a ≤ 2 ∧ (a < 2 → b ≤ 39) ∧ b < 268435456 ∧ (∀ x ∈ t, x < 268435456) ∧ t.length ≤ 10
theorem nats_of {l : List Int} (h : l.all inR = true) : ∃ t : List Nat, l = nats t ∧ ∀ x ∈ t, x < 268435456 := by
  induction l with
  | nil => exact ⟨[], rfl, fun x hx => by simp at hx⟩
  | cons x l ih =>
    rw [List.all_cons, Bool.and_eq_true] at h
    obtain ⟨t, ht, hb⟩ := ih h.2
    have hx : 0 ≤ x ∧ x < 268435456 := by have := h.1; unfold inR at this; simpa using this
    refine ⟨x.toNat :: t, ?_, fun y hy => ?_⟩
    · rw [ht]; simp only [nats, List.map_cons]; rw [show ((x.toNat : Nat) : Int) = x from by omega]
    · rcases List.mem_cons.1 hy with rfl | hy
      · omega
      · exact hb y hy
theorem isIDl_f (l : List Int) (hl : l.length < 4611686018427387904) : ∃ b, Ev (fun k => spec_IsID.f k l) b ∧ (b = true → GoodID l) := by
  have no : ∀ (f : Nat → Option Bool), (∀ k, f k = spec_IsID.j0 k l true) → ∃ b, Ev f b ∧ (b = true → GoodID l) := fun f hf => by
    refine ⟨false, Ev.congr hf (Ev.step (f := fun _ => some false) (fun k => ?_) (Ev.now _)), fun h => by cases h⟩
    simp only [spec_IsID.j0]
    rw [if_pos trivial]
  by_cases c1 : (l.length : Int) < 2
  · exact no _ fun k => by unfold spec_IsID.f; rw [if_pos c1]
  by_cases c2 : (l.length : Int) > 12
  · exact no _ fun k => by unfold spec_IsID.f; rw [if_neg c1, if_pos c2]
  obtain ⟨x, y, t, rfl⟩ : ∃ x y t, l = x :: y :: t := by
    match l, c1 with
    | [], c1 => simp at c1
    | [_], c1 => simp at c1
    | x :: y :: t, _ => exact ⟨x, y, t, rfl⟩
  have r0 : rd (x :: y :: t) 0 = x := rfl
  have r1 : rd (x :: y :: t) 1 = y := rfl
  have c3 : (0 : Int) < ((x :: y :: t).length : Int) := by omega
  have c4 : (1 : Int) < ((x :: y :: t).length : Int) := by omega
  by_cases c5 : x < 0
  · exact no _ fun k => by unfold spec_IsID.f; rw [if_neg c1, if_neg c2, if_pos c3, r0, if_pos c5]
  by_cases c6 : x > 2
  · exact no _ fun k => by unfold spec_IsID.f; rw [if_neg c1, if_neg c2, if_pos c3, r0, if_neg c5, if_pos c6]
  by_cases c7 : y < 0
  · exact no _ fun k => by unfold spec_IsID.f; rw [if_neg c1, if_neg c2, if_pos c3, r0, r1, if_neg c5, if_neg c6, if_pos c4, if_pos c7]
  by_cases c8 : x < 2 ∧ y > 39
  · exact no _ fun k => by unfold spec_IsID.f; rw [if_neg c1, if_neg c2, if_pos c3, r0, r1, if_neg c5, if_neg c6, if_pos c4, if_neg c7, if_pos c8.1, decide_eq_true c8.2]
  · have hm := isIDl_l0 (x :: y :: t) hl (x :: y :: t).length 0 (by omega)
    rw [List.drop_zero] at hm
    refine ⟨_, Ev.congr (g := fun k => spec_IsID.f k (x :: y :: t)) (f := fun k => spec_IsID.j0 k (x :: y :: t) false) (fun k => ?_) (Ev.step (fun k => ?_) hm), fun h => ?_⟩
    · unfold spec_IsID.f
      rw [if_neg c1, if_neg c2, if_pos c3, r0, r1, if_neg c5, if_neg c6, if_pos c4, if_neg c7]
      by_cases h2 : x < 2
      · rw [if_pos h2, decide_eq_false (by omega)]
      · rw [if_neg h2]
    · simp only [spec_IsID.j0]
      rw [if_neg (by simp)]; rfl
    · obtain ⟨ts, ht, hb⟩ := nats_of h
      match ts, ht, hb with
      | [], ht, _ => simp [nats] at ht
      | [_], ht, _ => simp [nats] at ht
      | a :: b :: t', ht, hb =>
        have ha : x = (a : Int) := by simp [nats] at ht; exact ht.1
        have hy : y = (b : Int) := by simp [nats] at ht; exact ht.2.1
        have hlen : t.length = t'.length := by have := congrArg List.length ht; simp [nats] at this; exact this
        refine ⟨a, b, t', ht, by omega, fun h2 => by omega, hb b (by simp), fun z hz => hb z (by simp [hz]), ?_⟩
        simp at c2; omega
end Go.Proofs.YtiopgkdldkkonaaDoor

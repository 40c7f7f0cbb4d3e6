/-
  PLAIN LEAN: numbers as digits of 32 bits, and what the printed functions of the package's whole numbers come to. No program is walked here.
-/
import Derived.Test.YtiopgkdldkkonaaDoorPnx1
import Derived.Test.YtiopgkdldkkonaaDoorPnx2
import Derived.Test.YtiopgkdldkkonaaDoorPnx3
namespace Go.Proofs.YtiopgkdldkkonaaDoor.Num
open Go.Proofs.YtiopgkdldkkonaaDoorW.PrintWords Go.RowKit Go.Proofs.YtiopgkdldkkonaaDoor.Pn

/-- The value of digits of 32 bits, the least first. -/
def vl : List Int → Nat
  | [] => 0
  | d :: l => d.toNat + 4294967296 * vl l
/-- The digits of a number, the highest not nought. -/
def dg (n : Nat) : List Int := if h : n = 0 then [] else ((n % 4294967296 : Nat) : Int) :: dg (n / 4294967296)
termination_by n
decreasing_by omega
def Wd (l : List Int) : Prop := ∀ d ∈ l, 0 ≤ d ∧ d < 4294967296

theorem dg_zero : dg 0 = [] := by unfold dg; simp
theorem dg_pos {n : Nat} (h : n ≠ 0) : dg n = ((n % 4294967296 : Nat) : Int) :: dg (n / 4294967296) := by rw [dg]; simp [h]
theorem vl_dg (n : Nat) : vl (dg n) = n := by
  induction n using Nat.strongRecOn with
  | ind n ih =>
    by_cases h : n = 0
    · subst h; rw [dg_zero]; rfl
    · rw [dg_pos h, vl, ih _ (by omega)]
      rw [Int.toNat_natCast]; omega
theorem wd_dg (n : Nat) : Wd (dg n) := by
  induction n using Nat.strongRecOn with
  | ind n ih =>
    by_cases h : n = 0
    · subst h; rw [dg_zero]; intro d hd; simp at hd
    · rw [dg_pos h]; intro d hd
      rcases List.mem_cons.1 hd with rfl | hd
      · omega
      · exact ih _ (by omega) d hd
theorem wd_nil : Wd [] := by intro d hd; simp at hd
theorem wd_cons {d : Int} {l : List Int} (h0 : 0 ≤ d) (h1 : d < 4294967296) (h : Wd l) : Wd (d :: l) := by
  intro x hx
  rcases List.mem_cons.1 hx with rfl | hx
  · exact ⟨h0, h1⟩
  · exact h x hx
theorem wd_head {d : Int} {l : List Int} (h : Wd (d :: l)) : 0 ≤ d ∧ d < 4294967296 := h d (by simp)
theorem wd_tail {d : Int} {l : List Int} (h : Wd (d :: l)) : Wd l := fun x hx => h x (by simp [hx])
theorem wd_app {l m : List Int} (h : Wd l) (k : Wd m) : Wd (l ++ m) := by
  intro d hd
  rcases List.mem_append.1 hd with hd | hd
  · exact h d hd
  · exact k d hd
theorem wd_left {l m : List Int} (h : Wd (l ++ m)) : Wd l := fun x hx => h x (by simp [hx])
theorem wd_right {l m : List Int} (h : Wd (l ++ m)) : Wd m := fun x hx => h x (by simp [hx])
theorem wd_rep (n : Nat) : Wd (List.replicate n 0) := by
  intro d hd
  have := List.eq_of_mem_replicate hd
  omega
theorem vl_app (l m : List Int) : vl (l ++ m) = vl l + 4294967296 ^ l.length * vl m := by
  induction l with
  | nil => simp [vl]
  | cons d l ih =>
    rw [List.cons_append, vl, vl, ih, List.length_cons, Nat.pow_succ, Nat.mul_add, ← Nat.mul_assoc, Nat.mul_comm 4294967296 (4294967296 ^ l.length)]
    omega
theorem vl_snoc (l : List Int) (d : Int) : vl (l ++ [d]) = vl l + 4294967296 ^ l.length * d.toNat := by
  rw [vl_app]; simp [vl]
theorem vl_lt {l : List Int} (h : Wd l) : vl l < 4294967296 ^ l.length := by
  induction l with
  | nil => simp [vl]
  | cons d l ih =>
    have hd := wd_head h
    have := ih (wd_tail h)
    rw [vl, List.length_cons, Nat.pow_succ]
    omega
theorem vl_rep (n : Nat) : vl (List.replicate n 0) = 0 := by
  induction n with
  | zero => rfl
  | succ n ih => rw [List.replicate_succ, vl, ih]; rfl
theorem dg_cons {d : Int} {l : List Int} (h0 : 0 ≤ d) (h1 : d < 4294967296) (hl : vl l ≠ 0 ∨ d ≠ 0) : dg (d.toNat + 4294967296 * vl l) = d :: dg (vl l) := by
  rw [dg_pos (by omega)]
  congr 1
  · omega
  · congr 1; omega
/-- Digits whose highest one is not nought are those of their value. -/
theorem dg_vl {l : List Int} (h : Wd l) (hl : ∀ d, l.getLast? = some d → d ≠ 0) : dg (vl l) = l := by
  induction l with
  | nil => rw [vl, dg_zero]
  | cons d l ih =>
    have hd := wd_head h
    by_cases e : l = []
    · subst e
      rw [vl, dg_cons hd.1 hd.2 (.inr (hl d rfl)), vl, dg_zero]
    · have hl' : ∀ x, l.getLast? = some x → x ≠ 0 := fun x hx => hl x (by
        rw [List.getLast?_cons]; rw [hx]; rfl)
      have ih := ih (wd_tail h) hl'
      have hne : vl l ≠ 0 := by
        intro e0; rw [e0, dg_zero] at ih; exact e ih.symm
      rw [vl, dg_cons hd.1 hd.2 (.inl hne), ih]
theorem dg_len_le {n m : Nat} (h : n < 4294967296 ^ m) : (dg n).length ≤ m := by
  induction m generalizing n with
  | zero =>
    have : n = 0 := by simp at h; exact h
    subst this; rw [dg_zero]; simp
  | succ m ih =>
    by_cases e : n = 0
    · subst e; rw [dg_zero]; simp
    · rw [dg_pos e, List.length_cons]
      have := ih (n := n / 4294967296) (by rw [Nat.pow_succ] at h; exact Nat.div_lt_of_lt_mul (by rw [Nat.mul_comm]; exact h))
      omega
theorem lt_dg_len (n : Nat) : n < 4294967296 ^ (dg n).length := by
  have := vl_lt (wd_dg n); rwa [vl_dg] at this
theorem dg_len_pos {n : Nat} (h : n ≠ 0) : 0 < (dg n).length := by rw [dg_pos h]; simp
/-- The highest digit. -/
theorem dg_ge {n : Nat} (h : n ≠ 0) : 4294967296 ^ ((dg n).length - 1) ≤ n := by
  induction n using Nat.strongRecOn with
  | ind n ih =>
    by_cases h1 : n / 4294967296 = 0
    · rw [dg_pos h, h1, dg_zero]; simp; omega
    · have := ih (n / 4294967296) (by omega) h1
      have hp := dg_len_pos h1
      rw [dg_pos h, List.length_cons]
      obtain ⟨m, hm⟩ : ∃ m, (dg (n / 4294967296)).length = m + 1 := ⟨(dg (n / 4294967296)).length - 1, by omega⟩
      rw [hm] at this ⊢
      simp only [Nat.add_sub_cancel] at this ⊢
      rw [Nat.pow_succ]
      omega
theorem rd_wd {l : List Int} (h : Wd l) (i : Int) : 0 ≤ rd l i ∧ rd l i < 4294967296 := by
  unfold rd
  by_cases hi : i.toNat < l.length
  · rw [List.getD_eq_getElem?_getD, List.getElem?_eq_getElem hi]
    exact h _ (List.getElem_mem hi)
  · rw [List.getD_eq_getElem?_getD, List.getElem?_eq_none (by omega)]; simp

theorem w64 {x : Int} (h0 : -9223372036854775808 ≤ x) (h1 : x < 9223372036854775808) : wrap64 x = x := by unfold wrap64; omega
theorem u64w (x : Int) : IntKind.u64.wrap x = x % 18446744073709551616 := by simp [IntKind.wrap, IntKind.bits, IntKind.signed]
theorem u64i {x : Int} (h0 : 0 ≤ x) (h1 : x < 18446744073709551616) : IntKind.u64.wrap x = x := by rw [u64w]; omega
theorem rd_snoc (l : List Int) (d : Int) : rd (l ++ [d]) (l.length : Int) = d := by
  unfold rd; rw [Int.toNat_natCast, List.getD_eq_getElem?_getD, List.getElem?_append_right (by omega)]; simp

/-! ### norm -/
theorem norm_l0 : ∀ (n : Nat) (l : List Int), l.length = n → Wd l → n < 4611686018427387904 → ∀ k, n < k → smallbig_nat_norm.l0 k l = some (dg (vl l)) := by
  intro n
  induction n with
  | zero =>
    intro l hl hw hn k hk
    obtain ⟨k, rfl⟩ : ∃ m, k = m + 1 := ⟨k - 1, by omega⟩
    obtain rfl : l = [] := List.eq_nil_of_length_eq_zero hl
    simp only [smallbig_nat_norm.l0]
    rw [if_neg (by simp), vl, dg_zero]
  | succ n ih =>
    intro l hl hw hn k hk
    obtain ⟨k, rfl⟩ : ∃ m, k = m + 1 := ⟨k - 1, by omega⟩
    rcases List.eq_nil_or_concat l with rfl | ⟨m, d, rfl⟩
    · simp at hl
    · rw [List.concat_eq_append] at *
      have hm : m.length = n := by simpa using hl
      have hlen : ((m ++ [d]).length : Int) = (m.length : Int) + 1 := by simp
      simp only [smallbig_nat_norm.l0]
      rw [hlen, show (m.length : Int) + 1 - 1 = (m.length : Int) from by omega, w64 (by omega) (by omega)]
      rw [if_pos (by omega), if_pos (by omega), if_pos (by omega), rd_snoc]
      by_cases e : d = 0
      · subst e
        rw [if_pos rfl, if_pos (by omega), Int.toNat_natCast, List.take_left' rfl, ih m hm (wd_left hw) (by omega) k (by omega), vl_snoc]
        simp
      · rw [if_neg e, dg_vl hw]
        intro x hx
        simp at hx; subst hx; exact e
theorem norm_f {l : List Int} (hw : Wd l) (hn : l.length < 4611686018427387904) {k : Nat} (hk : l.length < k) : smallbig_nat_norm.f k l = some (dg (vl l)) :=
  norm_l0 l.length l rfl hw hn k hk

/-! ### natOf -/
theorem natOf_f (n : Nat) (hn : n < 18446744073709551616) {k : Nat} (hk : 2 < k) : smallbig_natOf.f k (n : Int) = some (dg n) := by
  unfold smallbig_natOf.f
  rw [norm_f (wd_cons (by omega) (by omega) (wd_cons (by omega) (by omega) wd_nil)) (by simp) (by simpa using hk)]
  simp only [Option.bind_some, vl]
  congr 1; congr 1; omega

/-! ### mulAdd -/
theorem set_mid (a b : List Int) (x v : Int) {i : Nat} (hi : i = a.length) : (a ++ x :: b).set i v = a ++ v :: b := by
  subst hi; rw [List.set_append_right _ _ (by omega)]; simp
theorem rd_mid (a b : List Int) (x : Int) {i : Int} (hi : i = a.length) : rd (a ++ x :: b) i = x := by
  subst hi; unfold rd; rw [Int.toNat_natCast, List.getD_eq_getElem?_getD, List.getElem?_append_right (by omega)]; simp
theorem len_mid (a b : List Int) (x : Int) : (a ++ x :: b).length = a.length + b.length + 1 := by simp; omega

theorem mulAdd_l0 (y : Nat) (hy : y < 4294967296) : ∀ (t a z : List Int) (c : Nat) (k : Nat), Wd (a ++ t) → Wd z → z.length = a.length → c < 4294967296 →
    a.length + t.length < 70368744177000 → 2 * t.length + a.length + 4 < k →
    smallbig_nat_mulAdd.l0 k (a ++ t) (y : Int) (z ++ List.replicate (t.length + 1) 0) (c : Int) (a ++ t) ((a ++ t).length : Int) (a.length : Int)
      = some (dg (vl z + 4294967296 ^ a.length * (vl t * y + c))) := by
  intro t
  induction t with
  | nil =>
    intro a z c k hw hz hl hc hn hk
    obtain ⟨k, rfl⟩ : ∃ m, k = m + 1 := ⟨k - 1, by omega⟩
    simp only [smallbig_nat_mulAdd.l0]
    have hlen : ((a ++ []).length : Int) = (a.length : Int) := by simp
    have hzl : ((z ++ List.replicate (([] : List Int).length + 1) 0).length : Int) = (a.length : Int) + 1 := by simp [hl]
    rw [hlen, hzl, if_neg (by omega), if_pos (by omega), if_pos (by omega), Int.toNat_natCast]
    simp only [List.length_nil, Nat.zero_add, List.replicate_succ, List.replicate_zero]
    rw [set_mid z [] 0 _ hl.symm]
    have hc' : (c : Int) % 4294967296 = c := by omega
    have hw' : Wd (z ++ [(c : Int) % 4294967296]) := wd_app hz (wd_cons (by omega) (by omega) wd_nil)
    rw [norm_f hw' (by simp; omega) (by simp; omega)]
    simp only [Option.bind_some]
    rw [vl_snoc, hc', hl, vl]; simp
  | cons d t ih =>
    intro a z c k hw hz hl hc hn hk
    obtain ⟨k, rfl⟩ : ∃ m, k = m + 1 := ⟨k - 1, by omega⟩
    have hd : 0 ≤ d ∧ d < 4294967296 := wd_head (wd_right hw)
    obtain ⟨n, rfl⟩ := Int.eq_ofNat_of_zero_le hd.1
    have hlen : ((a ++ (n : Int) :: t).length : Int) = (a.length : Int) + t.length + 1 := by rw [len_mid]; omega
    simp only [List.length_cons] at hn hk
    have hprod : n * y ≤ 4294967295 * 4294967295 := Nat.mul_le_mul (by omega) (by omega)
    have hzl : ((z ++ List.replicate ((((n : Int) :: t).length) + 1) 0).length : Int) = (a.length : Int) + t.length + 2 := by simp [hl]; omega
    have hval : (IntKind.u64.wrap ((c : Int) + IntKind.u64.wrap (IntKind.u64.wrap (n : Int) * IntKind.u64.wrap (y : Int)))) = ((c + n * y : Nat) : Int) := by
      rw [u64i (x := (n : Int)) (by omega) (by omega), u64i (x := (y : Int)) (by omega) (by omega), ← Int.natCast_mul, u64i (x := ((n * y : Nat) : Int)) (by omega) (by omega), u64i (by omega) (by omega)]
      simp
    have hz' : Wd (z ++ [((c + n * y : Nat) : Int) % 4294967296]) := wd_app hz (wd_cons (by omega) (by omega) wd_nil)
    have key := ih (a ++ [(n : Int)]) (z ++ [((c + n * y : Nat) : Int) % 4294967296]) ((c + n * y) / 4294967296) k (by simpa using hw) hz' (by simp [hl]) (by omega) (by simp; omega) (by simp; omega)
    simp only [smallbig_nat_mulAdd.l0]
    rw [hlen, hzl, if_pos (by omega), if_pos (by omega), if_pos (by omega), if_pos (by omega), rd_mid a t (n : Int) rfl, hval, Int.toNat_natCast, w64 (by omega) (by omega)]
    simp only [List.length_cons, List.replicate_succ]
    rw [set_mid z _ 0 _ hl.symm]
    have e1 : a ++ [(n : Int)] ++ t = a ++ (n : Int) :: t := by simp
    have e2 : (z ++ [((c + n * y : Nat) : Int) % 4294967296]) ++ List.replicate (t.length + 1) 0 = z ++ ((c + n * y : Nat) : Int) % 4294967296 :: 0 :: List.replicate t.length 0 := by simp [List.replicate_succ]
    rw [e1, e2, hlen] at key
    have e3 : (((a ++ [(n : Int)]).length : Nat) : Int) = (a.length : Int) + 1 := by simp
    rw [e3] at key
    have e4 : (((c + n * y : Nat) : Int) / 4294967296) = (((c + n * y) / 4294967296 : Nat) : Int) := by omega
    rw [e4, key]
    congr 2
    rw [vl_snoc, hl, List.length_append, List.length_singleton, Nat.pow_succ, vl]
    have e5 : (((c + n * y : Nat) : Int) % 4294967296).toNat = (c + n * y) % 4294967296 := by omega
    rw [e5, Int.toNat_natCast, Nat.add_assoc, Nat.mul_assoc, ← Nat.mul_add]
    congr 2
    have := Nat.div_add_mod (c + n * y) 4294967296
    rw [Nat.add_mul, Nat.mul_assoc, Nat.mul_add]
    omega
theorem mulAdd_f (n y r : Nat) (hy : y < 4294967296) (hr : r < 4294967296) (hn : (dg n).length < 70368744177000) {k : Nat} (hk : 2 * (dg n).length + 4 < k) :
    smallbig_nat_mulAdd.f k (dg n) (y : Int) (r : Int) = some (dg (n * y + r)) := by
  unfold smallbig_nat_mulAdd.f
  have hw := w64 (x := ((dg n).length : Int) + 1) (by omega) (by omega)
  rw [hw, if_pos (by omega), if_pos (by omega), u64i (by omega) (by omega)]
  have := mulAdd_l0 y hy (dg n) [] [] r k (by simpa using wd_dg n) wd_nil rfl hr (by simpa using hn) (by simpa using hk)
  simp only [List.nil_append, List.length_nil, Nat.pow_zero, Nat.one_mul, vl, Nat.zero_add, vl_dg] at this
  rw [show (((dg n).length : Int) + 1).toNat = (dg n).length + 1 from by omega]
  exact this
end Go.Proofs.YtiopgkdldkkonaaDoor.Num

/-
  PLAIN LEAN: numbers as digits of 32 bits, and what the printed functions of the package's whole numbers come to. No program is walked here.
  PLAIN LEAN: what the printed functions of the package's whole numbers come to: comparing, subtracting, shifting to the left by 7, dividing by one digit. No program is walked here.
-/
import Derived.Test.YtiopgkdldkkonaaDoorZP1
import Derived.Test.YtiopgkdldkkonaaDoorZP2
import Derived.Test.YtiopgkdldkkonaaDoorZP3
import Derived.Laws.BitsLemmas
namespace Go.Proofs.YtiopgkdldkkonaaDoor.Num
open Go.Proofs.YtiopgkdldkkonaaDoorW.PrintWords Go.RowKit Go.Proofs.YtiopgkdldkkonaaDoor.Pn

/-- The value of digits of 32 bits, the least first. -/
def vl : List Int → Nat
  | [] => 0
  | d :: l => d.toNat + 4294967296 * vl l
/-- The digits of a number, the highest not nought. -/
def dg (n : Nat) : List Int := if h : n = 0 then [] else ((n % 4294967296 : Nat) : Int) :: dg (n / 4294967296)
termination_by n
decreasing_by omega
def Wd (l : List Int) : Prop := ∀ d ∈ l, 0 ≤ d ∧ d < 4294967296

theorem dg_zero : dg 0 = [] := by unfold dg; simp
theorem dg_pos {n : Nat} (h : n ≠ 0) : dg n = ((n % 4294967296 : Nat) : Int) :: dg (n / 4294967296) := by rw [dg]; simp [h]
theorem vl_dg (n : Nat) : vl (dg n) = n := by
  induction n using Nat.strongRecOn with
  | ind n ih =>
    by_cases h : n = 0
    · subst h; rw [dg_zero]; rfl
    · rw [dg_pos h, vl, ih _ (by omega)]
      rw [Int.toNat_natCast]; omega
theorem wd_dg (n : Nat) : Wd (dg n) := by
  induction n using Nat.strongRecOn with
  | ind n ih =>
    by_cases h : n = 0
    · subst h; rw [dg_zero]; intro d hd; simp at hd
    · rw [dg_pos h]; intro d hd
      rcases List.mem_cons.1 hd with rfl | hd
      · omega
      · exact ih _ (by omega) d hd
theorem wd_nil : Wd [] := by intro d hd; simp at hd
theorem wd_cons {d : Int} {l : List Int} (h0 : 0 ≤ d) (h1 : d < 4294967296) (h : Wd l) : Wd (d :: l) := by
  intro x hx
  rcases List.mem_cons.1 hx with rfl | hx
  · exact ⟨h0, h1⟩
  · exact h x hx
theorem wd_head {d : Int} {l : List Int} (h : Wd (d :: l)) : 0 ≤ d ∧ d < 4294967296 := h d (by simp)
theorem wd_tail {d : Int} {l : List Int} (h : Wd (d :: l)) : Wd l := fun x hx => h x (by simp [hx])
theorem wd_app {l m : List Int} (h : Wd l) (k : Wd m) : Wd (l ++ m) := by
  intro d hd
  rcases List.mem_append.1 hd with hd | hd
  · exact h d hd
  · exact k d hd
theorem wd_left {l m : List Int} (h : Wd (l ++ m)) : Wd l := fun x hx => h x (by simp [hx])
theorem wd_right {l m : List Int} (h : Wd (l ++ m)) : Wd m := fun x hx => h x (by simp [hx])
theorem wd_rep (n : Nat) : Wd (List.replicate n 0) := by
  intro d hd
  have := List.eq_of_mem_replicate hd
  omega
theorem vl_app (l m : List Int) : vl (l ++ m) = vl l + 4294967296 ^ l.length * vl m := by
  induction l with
  | nil => simp [vl]
  | cons d l ih =>
    rw [List.cons_append, vl, vl, ih, List.length_cons, Nat.pow_succ, Nat.mul_add, ← Nat.mul_assoc, Nat.mul_comm 4294967296 (4294967296 ^ l.length)]
    omega
theorem vl_snoc (l : List Int) (d : Int) : vl (l ++ [d]) = vl l + 4294967296 ^ l.length * d.toNat := by
  rw [vl_app]; simp [vl]
theorem vl_lt {l : List Int} (h : Wd l) : vl l < 4294967296 ^ l.length := by
  induction l with
  | nil => simp [vl]
  | cons d l ih =>
    have hd := wd_head h
    have := ih (wd_tail h)
    rw [vl, List.length_cons, Nat.pow_succ]
    omega
theorem vl_rep (n : Nat) : vl (List.replicate n 0) = 0 := by
  induction n with
  | zero => rfl
  | succ n ih => rw [List.replicate_succ, vl, ih]; rfl
theorem dg_cons {d : Int} {l : List Int} (h0 : 0 ≤ d) (h1 : d < 4294967296) (hl : vl l ≠ 0 ∨ d ≠ 0) : dg (d.toNat + 4294967296 * vl l) = d :: dg (vl l) := by
  rw [dg_pos (by omega)]
  congr 1
  · omega
  · congr 1; omega
/-- Digits whose highest one is not nought are those of their value. -/
theorem dg_vl {l : List Int} (h : Wd l) (hl : ∀ d, l.getLast? = some d → d ≠ 0) : dg (vl l) = l := by
  induction l with
  | nil => rw [vl, dg_zero]
  | cons d l ih =>
    have hd := wd_head h
    by_cases e : l = []
    · subst e
      rw [vl, dg_cons hd.1 hd.2 (.inr (hl d rfl)), vl, dg_zero]
    · have hl' : ∀ x, l.getLast? = some x → x ≠ 0 := fun x hx => hl x (by
        rw [List.getLast?_cons]; rw [hx]; rfl)
      have ih := ih (wd_tail h) hl'
      have hne : vl l ≠ 0 := by
        intro e0; rw [e0, dg_zero] at ih; exact e ih.symm
      rw [vl, dg_cons hd.1 hd.2 (.inl hne), ih]
theorem dg_len_le {n m : Nat} (h : n < 4294967296 ^ m) : (dg n).length ≤ m := by
  induction m generalizing n with
  | zero =>
    have : n = 0 := by simp at h; exact h
    subst this; rw [dg_zero]; simp
  | succ m ih =>
    by_cases e : n = 0
    · subst e; rw [dg_zero]; simp
    · rw [dg_pos e, List.length_cons]
      have := ih (n := n / 4294967296) (by rw [Nat.pow_succ] at h; exact Nat.div_lt_of_lt_mul (by rw [Nat.mul_comm]; exact h))
      omega
theorem lt_dg_len (n : Nat) : n < 4294967296 ^ (dg n).length := by
  have := vl_lt (wd_dg n); rwa [vl_dg] at this
theorem dg_len_pos {n : Nat} (h : n ≠ 0) : 0 < (dg n).length := by rw [dg_pos h]; simp
/-- The highest digit. -/
theorem dg_ge {n : Nat} (h : n ≠ 0) : 4294967296 ^ ((dg n).length - 1) ≤ n := by
  induction n using Nat.strongRecOn with
  | ind n ih =>
    by_cases h1 : n / 4294967296 = 0
    · rw [dg_pos h, h1, dg_zero]; simp; omega
    · have := ih (n / 4294967296) (by omega) h1
      have hp := dg_len_pos h1
      rw [dg_pos h, List.length_cons]
      obtain ⟨m, hm⟩ : ∃ m, (dg (n / 4294967296)).length = m + 1 := ⟨(dg (n / 4294967296)).length - 1, by omega⟩
      rw [hm] at this ⊢
      simp only [Nat.add_sub_cancel] at this ⊢
      rw [Nat.pow_succ]
      omega
theorem rd_wd {l : List Int} (h : Wd l) (i : Int) : 0 ≤ rd l i ∧ rd l i < 4294967296 := by
  unfold rd
  by_cases hi : i.toNat < l.length
  · rw [List.getD_eq_getElem?_getD, List.getElem?_eq_getElem hi]
    exact h _ (List.getElem_mem hi)
  · rw [List.getD_eq_getElem?_getD, List.getElem?_eq_none (by omega)]; simp

theorem w64 {x : Int} (h0 : -9223372036854775808 ≤ x) (h1 : x < 9223372036854775808) : wrap64 x = x := by unfold wrap64; omega
theorem u64w (x : Int) : IntKind.u64.wrap x = x % 18446744073709551616 := by simp [IntKind.wrap, IntKind.bits, IntKind.signed]
theorem u64i {x : Int} (h0 : 0 ≤ x) (h1 : x < 18446744073709551616) : IntKind.u64.wrap x = x := by rw [u64w]; omega
theorem rd_snoc (l : List Int) (d : Int) : rd (l ++ [d]) (l.length : Int) = d := by
  unfold rd; rw [Int.toNat_natCast, List.getD_eq_getElem?_getD, List.getElem?_append_right (by omega)]; simp

/-! ### norm -/
theorem norm_l0 : ∀ (n : Nat) (l : List Int), l.length = n → Wd l → n < 4611686018427387904 → ∀ k, n < k → smallbig_nat_norm.l0 k l = some (dg (vl l)) := by
  intro n
  induction n with
  | zero =>
    intro l hl hw hn k hk
    obtain ⟨k, rfl⟩ : ∃ m, k = m + 1 := ⟨k - 1, by omega⟩
    obtain rfl : l = [] := List.eq_nil_of_length_eq_zero hl
    simp only [smallbig_nat_norm.l0]
    rw [if_neg (by simp), vl, dg_zero]
  | succ n ih =>
    intro l hl hw hn k hk
    obtain ⟨k, rfl⟩ : ∃ m, k = m + 1 := ⟨k - 1, by omega⟩
    rcases List.eq_nil_or_concat l with rfl | ⟨m, d, rfl⟩
    · simp at hl
    · rw [List.concat_eq_append] at *
      have hm : m.length = n := by simpa using hl
      have hlen : ((m ++ [d]).length : Int) = (m.length : Int) + 1 := by simp
      simp only [smallbig_nat_norm.l0]
      rw [hlen, show (m.length : Int) + 1 - 1 = (m.length : Int) from by omega, w64 (by omega) (by omega)]
      rw [if_pos (by omega), if_pos (by omega), if_pos (by omega), rd_snoc]
      by_cases e : d = 0
      · subst e
        rw [if_pos rfl, if_pos (by omega), Int.toNat_natCast, List.take_left' rfl, ih m hm (wd_left hw) (by omega) k (by omega), vl_snoc]
        simp
      · rw [if_neg e, dg_vl hw]
        intro x hx
        simp at hx; subst hx; exact e
theorem norm_f {l : List Int} (hw : Wd l) (hn : l.length < 4611686018427387904) {k : Nat} (hk : l.length < k) : smallbig_nat_norm.f k l = some (dg (vl l)) :=
  norm_l0 l.length l rfl hw hn k hk

/-! ### natOf -/
theorem natOf_f (n : Nat) (hn : n < 18446744073709551616) {k : Nat} (hk : 2 < k) : smallbig_natOf.f k (n : Int) = some (dg n) := by
  unfold smallbig_natOf.f
  rw [norm_f (wd_cons (by omega) (by omega) (wd_cons (by omega) (by omega) wd_nil)) (by simp) (by simpa using hk)]
  simp only [Option.bind_some, vl]
  congr 1; congr 1; omega

/-! ### mulAdd -/
theorem set_mid (a b : List Int) (x v : Int) {i : Nat} (hi : i = a.length) : (a ++ x :: b).set i v = a ++ v :: b := by
  subst hi; rw [List.set_append_right _ _ (by omega)]; simp
theorem rd_mid (a b : List Int) (x : Int) {i : Int} (hi : i = a.length) : rd (a ++ x :: b) i = x := by
  subst hi; unfold rd; rw [Int.toNat_natCast, List.getD_eq_getElem?_getD, List.getElem?_append_right (by omega)]; simp
theorem len_mid (a b : List Int) (x : Int) : (a ++ x :: b).length = a.length + b.length + 1 := by simp; omega

theorem mulAdd_l0 (y : Nat) (hy : y < 4294967296) : ∀ (t a z : List Int) (c : Nat) (k : Nat), Wd (a ++ t) → Wd z → z.length = a.length → c < 4294967296 →
    a.length + t.length < 70368744177000 → 2 * t.length + a.length + 4 < k →
    smallbig_nat_mulAdd.l0 k (a ++ t) (y : Int) (z ++ List.replicate (t.length + 1) 0) (c : Int) (a ++ t) ((a ++ t).length : Int) (a.length : Int)
      = some (dg (vl z + 4294967296 ^ a.length * (vl t * y + c))) := by
  intro t
  induction t with
  | nil =>
    intro a z c k hw hz hl hc hn hk
    obtain ⟨k, rfl⟩ : ∃ m, k = m + 1 := ⟨k - 1, by omega⟩
    simp only [smallbig_nat_mulAdd.l0]
    have hlen : ((a ++ []).length : Int) = (a.length : Int) := by simp
    have hzl : ((z ++ List.replicate (([] : List Int).length + 1) 0).length : Int) = (a.length : Int) + 1 := by simp [hl]
    rw [hlen, hzl, if_neg (by omega), if_pos (by omega), if_pos (by omega), Int.toNat_natCast]
    simp only [List.length_nil, Nat.zero_add, List.replicate_succ, List.replicate_zero]
    rw [set_mid z [] 0 _ hl.symm]
    have hc' : (c : Int) % 4294967296 = c := by omega
    have hw' : Wd (z ++ [(c : Int) % 4294967296]) := wd_app hz (wd_cons (by omega) (by omega) wd_nil)
    rw [norm_f hw' (by simp; omega) (by simp; omega)]
    simp only [Option.bind_some]
    rw [vl_snoc, hc', hl, vl]; simp
  | cons d t ih =>
    intro a z c k hw hz hl hc hn hk
    obtain ⟨k, rfl⟩ : ∃ m, k = m + 1 := ⟨k - 1, by omega⟩
    have hd : 0 ≤ d ∧ d < 4294967296 := wd_head (wd_right hw)
    obtain ⟨n, rfl⟩ := Int.eq_ofNat_of_zero_le hd.1
    have hlen : ((a ++ (n : Int) :: t).length : Int) = (a.length : Int) + t.length + 1 := by rw [len_mid]; omega
    simp only [List.length_cons] at hn hk
    have hprod : n * y ≤ 4294967295 * 4294967295 := Nat.mul_le_mul (by omega) (by omega)
    have hzl : ((z ++ List.replicate ((((n : Int) :: t).length) + 1) 0).length : Int) = (a.length : Int) + t.length + 2 := by simp [hl]; omega
    have hval : (IntKind.u64.wrap ((c : Int) + IntKind.u64.wrap (IntKind.u64.wrap (n : Int) * IntKind.u64.wrap (y : Int)))) = ((c + n * y : Nat) : Int) := by
      rw [u64i (x := (n : Int)) (by omega) (by omega), u64i (x := (y : Int)) (by omega) (by omega), ← Int.natCast_mul, u64i (x := ((n * y : Nat) : Int)) (by omega) (by omega), u64i (by omega) (by omega)]
      simp
    have hz' : Wd (z ++ [((c + n * y : Nat) : Int) % 4294967296]) := wd_app hz (wd_cons (by omega) (by omega) wd_nil)
    have key := ih (a ++ [(n : Int)]) (z ++ [((c + n * y : Nat) : Int) % 4294967296]) ((c + n * y) / 4294967296) k (by simpa using hw) hz' (by simp [hl]) (by omega) (by simp; omega) (by simp; omega)
    simp only [smallbig_nat_mulAdd.l0]
    rw [hlen, hzl, if_pos (by omega), if_pos (by omega), if_pos (by omega), if_pos (by omega), rd_mid a t (n : Int) rfl, hval, Int.toNat_natCast, w64 (by omega) (by omega)]
    simp only [List.length_cons, List.replicate_succ]
    rw [set_mid z _ 0 _ hl.symm]
    have e1 : a ++ [(n : Int)] ++ t = a ++ (n : Int) :: t := by simp
    have e2 : (z ++ [((c + n * y : Nat) : Int) % 4294967296]) ++ List.replicate (t.length + 1) 0 = z ++ ((c + n * y : Nat) : Int) % 4294967296 :: 0 :: List.replicate t.length 0 := by simp [List.replicate_succ]
    rw [e1, e2, hlen] at key
    have e3 : (((a ++ [(n : Int)]).length : Nat) : Int) = (a.length : Int) + 1 := by simp
    rw [e3] at key
    have e4 : (((c + n * y : Nat) : Int) / 4294967296) = (((c + n * y) / 4294967296 : Nat) : Int) := by omega
    rw [e4, key]
    congr 2
    rw [vl_snoc, hl, List.length_append, List.length_singleton, Nat.pow_succ, vl]
    have e5 : (((c + n * y : Nat) : Int) % 4294967296).toNat = (c + n * y) % 4294967296 := by omega
    rw [e5, Int.toNat_natCast, Nat.add_assoc, Nat.mul_assoc, ← Nat.mul_add]
    congr 2
    have := Nat.div_add_mod (c + n * y) 4294967296
    rw [Nat.add_mul, Nat.mul_assoc, Nat.mul_add]
    omega
theorem mulAdd_f (n y r : Nat) (hy : y < 4294967296) (hr : r < 4294967296) (hn : (dg n).length < 70368744177000) {k : Nat} (hk : 2 * (dg n).length + 4 < k) :
    smallbig_nat_mulAdd.f k (dg n) (y : Int) (r : Int) = some (dg (n * y + r)) := by
  unfold smallbig_nat_mulAdd.f
  have hw := w64 (x := ((dg n).length : Int) + 1) (by omega) (by omega)
  rw [hw, if_pos (by omega), if_pos (by omega), u64i (by omega) (by omega)]
  have := mulAdd_l0 y hy (dg n) [] [] r k (by simpa using wd_dg n) wd_nil rfl hr (by simpa using hn) (by simpa using hk)
  simp only [List.nil_append, List.length_nil, Nat.pow_zero, Nat.one_mul, vl, Nat.zero_add, vl_dg] at this
  rw [show (((dg n).length : Int) + 1).toNat = (dg n).length + 1 from by omega]
  exact this
end Go.Proofs.YtiopgkdldkkonaaDoor.Num
namespace Go.Proofs.YtiopgkdldkkonaaDoor.Num
open Go.Proofs.YtiopgkdldkkonaaDoorW.PrintWords Go.Proofs.YtiopgkdldkkonaaDoorW.PrintMore Go.RowKit Go.Proofs.YtiopgkdldkkonaaDoor.Pn

/-! ### cmp -/
def cmpN (a b : Nat) : Int := if a < b then -1 else if a = b then 0 else 1
theorem cmpN_add (u v c : Nat) : cmpN (u + c) (v + c) = cmpN u v := by simp [cmpN]
theorem cmp_l0 : ∀ (n : Nat) (a b s t : List Int) (k : Nat), a.length = n → b.length = n → Wd a → Wd b → n < 4611686018427387904 → n < k →
    smallbig_nat_cmp.l0 k (a ++ s) (b ++ t) ((n : Int) - 1) = some (cmpN (vl a) (vl b)) := by
  intro n
  induction n with
  | zero =>
    intro a b s t k ha hb _ _ _ hk
    obtain ⟨k, rfl⟩ : ∃ m, k = m + 1 := ⟨k - 1, by omega⟩
    obtain rfl : a = [] := List.eq_nil_of_length_eq_zero ha
    obtain rfl : b = [] := List.eq_nil_of_length_eq_zero hb
    simp only [smallbig_nat_cmp.l0]
    rw [if_neg (by omega)]; simp [cmpN]
  | succ n ih =>
    intro a b s t k ha hb hwa hwb hn hk
    obtain ⟨k, rfl⟩ : ∃ m, k = m + 1 := ⟨k - 1, by omega⟩
    rcases List.eq_nil_or_concat a with rfl | ⟨a, d, rfl⟩
    · simp at ha
    rcases List.eq_nil_or_concat b with rfl | ⟨b, e, rfl⟩
    · simp at hb
    simp only [List.concat_eq_append] at *
    have ha' : a.length = n := by simpa using ha
    have hb' : b.length = n := by simpa using hb
    have hd := hwa d (by simp)
    have he := hwb e (by simp)
    have e1 : (a ++ [d]) ++ s = a ++ d :: s := by simp
    have e2 : (b ++ [e]) ++ t = b ++ e :: t := by simp
    have el1 : ((a ++ d :: s).length : Int) = n + s.length + 1 := by rw [len_mid]; omega
    have el2 : ((b ++ e :: t).length : Int) = n + t.length + 1 := by rw [len_mid]; omega
    simp only [smallbig_nat_cmp.l0]
    rw [e1, e2, el1, el2, show ((n + 1 : Nat) : Int) - 1 = (n : Int) from by omega, if_pos (by omega), if_pos (by omega), if_pos (by omega), if_pos (by omega), rd_mid a s d (by omega), rd_mid b t e (by omega)]
    have hla := vl_lt (wd_left hwa)
    have hlb := vl_lt (wd_left hwb)
    rw [ha'] at hla; rw [hb'] at hlb
    obtain ⟨d, rfl⟩ := Int.eq_ofNat_of_zero_le hd.1
    obtain ⟨e, rfl⟩ := Int.eq_ofNat_of_zero_le he.1
    rw [vl_snoc, vl_snoc, ha', hb', Int.toNat_natCast, Int.toNat_natCast]
    by_cases h : d = e
    · subst h
      rw [if_pos rfl, w64 (by omega) (by omega), ih a b _ _ k ha' hb' (wd_left hwa) (wd_left hwb) (by omega) (by omega)]
      congr 1; exact (cmpN_add _ _ _).symm
    · rw [if_neg (by omega)]
      have hm : ∀ x y : Nat, x < y → ∀ u v : Nat, u < 4294967296 ^ n → u + 4294967296 ^ n * x < v + 4294967296 ^ n * y := by
        intro x y hxy u v hu
        have : 4294967296 ^ n * (x + 1) ≤ 4294967296 ^ n * y := Nat.mul_le_mul_left _ hxy
        rw [Nat.mul_succ] at this; omega
      unfold cmpN
      rcases Nat.lt_or_gt_of_ne h with h | h
      · rw [if_pos (by omega), if_pos (hm d e h _ _ hla)]
      · have := hm e d h _ (vl a) hlb
        rw [if_neg (by omega), if_neg (by omega), if_neg (by omega)]
theorem cmp_f (m n : Nat) (hm : (dg m).length < 4611686018427387904) {k : Nat} (hk : (dg m).length < k) : smallbig_nat_cmp.f k (dg m) (dg n) = some (cmpN m n) := by
  unfold smallbig_nat_cmp.f
  by_cases h : (dg m).length = (dg n).length
  · rw [if_pos (by omega), w64 (by omega) (by omega)]
    have := cmp_l0 (dg m).length (dg m) (dg n) [] [] k rfl h.symm (wd_dg m) (wd_dg n) hm hk
    simpa [vl_dg] using this
  · have key : ∀ a b : Nat, (dg a).length < (dg b).length → a < b := by
      intro a b hab
      have h1 := lt_dg_len a
      have hb : b ≠ 0 := by intro e; subst e; rw [dg_zero] at hab; simp at hab
      have h2 := dg_ge hb
      have h3 : 4294967296 ^ (dg a).length ≤ 4294967296 ^ ((dg b).length - 1) := Nat.pow_le_pow_right (by omega) (by omega)
      omega
    rw [if_neg (by omega)]
    unfold cmpN
    rcases Nat.lt_or_gt_of_ne h with h | h
    · have := key m n h
      rw [if_pos (by omega), if_pos this]
    · have := key n m h
      rw [if_neg (by omega), if_neg (by omega), if_neg (by omega)]

/-! ### sub -/
theorem sub_l0 : ∀ (t q a p z : List Int) (b k : Nat), Wd (a ++ t) → Wd (p ++ q) → Wd z → z.length = a.length → (q ≠ [] → p.length = a.length) → (q = [] → p.length ≤ a.length) → b ≤ 1 →
    vl q + b ≤ vl t → q.length ≤ t.length → a.length + t.length < 4611686018427387904 → 2 * t.length + a.length + 4 < k →
    smallbig_nat_sub.l0 k (a ++ t) (p ++ q) (z ++ List.replicate t.length 0) (b : Int) ((a ++ t).length : Int) (a.length : Int)
      = some (dg (vl z + 4294967296 ^ a.length * (vl t - vl q - b))) := by
  intro t
  induction t with
  | nil =>
    intro q a p z b k hw hwp hz hl hq1 hq2 hb hv hql hn hk
    obtain ⟨k, rfl⟩ : ∃ m, k = m + 1 := ⟨k - 1, by omega⟩
    simp only [smallbig_nat_sub.l0]
    rw [if_neg (by simp)]
    simp only [List.length_nil, List.replicate_zero, List.append_nil]
    simp only [List.length_nil] at hk hn
    rw [norm_f hz (by omega) (by omega)]
    simp [vl]
  | cons d t ih =>
    intro q a p z b k hw hwp hz hl hq1 hq2 hb hv hql hn hk
    obtain ⟨k, rfl⟩ : ∃ m, k = m + 1 := ⟨k - 1, by omega⟩
    have hd : 0 ≤ d ∧ d < 4294967296 := wd_head (wd_right hw)
    obtain ⟨n, rfl⟩ := Int.eq_ofNat_of_zero_le hd.1
    have hlen : ((a ++ (n : Int) :: t).length : Int) = (a.length : Int) + t.length + 1 := by rw [len_mid]; omega
    simp only [List.length_cons] at hn hk hql
    have hzl : ((z ++ List.replicate (((n : Int) :: t).length) 0).length : Int) = (a.length : Int) + t.length + 1 := by simp [hl]; omega
    -- one round, whatever the other digit
    have step : ∀ (e : Nat) (q' p' : List Int), e < 4294967296 → vl q = e + 4294967296 * vl q' → p' ++ q' = p ++ q → Wd (p' ++ q') → (q' ≠ [] → p'.length = a.length + 1) → (q' = [] → p'.length ≤ a.length + 1) → q'.length ≤ t.length →
        smallbig_nat_sub.l0 k (a ++ (n : Int) :: t) (p ++ q) (z ++ (((((n : Int) - b - e) % 18446744073709551616) % 4294967296) :: List.replicate t.length 0)) ((((n : Int) - b - e) % 18446744073709551616) / 9223372036854775808) ((a.length : Int) + t.length + 1) ((a.length : Int) + 1)
          = some (dg (vl z + 4294967296 ^ a.length * (vl ((n : Int) :: t) - vl q - b))) := by
      intro e q' p' he hvq hpq hwp' h1 h2 h3
      have hvt : vl ((n : Int) :: t) = n + 4294967296 * vl t := by rw [vl, Int.toNat_natCast]
      rw [hvt, hvq] at hv
      obtain ⟨b', hb'⟩ : ∃ b' : Nat, b' = if n < b + e then 1 else 0 := ⟨_, rfl⟩
      obtain ⟨zi, hzi⟩ : ∃ zi : Nat, zi = n + 4294967296 * b' - b - e := ⟨_, rfl⟩
      have hbe : ((((n : Int) - b - e) % 18446744073709551616) / 9223372036854775808) = (b' : Int) := by
        rw [hb']; split <;> omega
      have hze : ((((n : Int) - b - e) % 18446744073709551616) % 4294967296) = (zi : Int) := by
        rw [hzi, hb']; split <;> omega
      have hzi2 : zi + b + e = n + 4294967296 * b' ∧ zi < 4294967296 ∧ b' ≤ 1 := by
        rw [hzi, hb']; split <;> omega
      have hle : vl q' + b' ≤ vl t := by
        rw [hb']; split <;> omega
      have key := ih q' (a ++ [(n : Int)]) p' (z ++ [(zi : Int)]) b' k (by simpa using hw) hwp' (wd_app hz (wd_cons (by omega) (by omega) wd_nil)) (by simp [hl]) (by simpa using h1) (by simpa using h2) hzi2.2.2 hle h3 (by simp; omega) (by simp; omega)
      have e1 : a ++ [(n : Int)] ++ t = a ++ (n : Int) :: t := by simp
      have e2 : (z ++ [(zi : Int)]) ++ List.replicate t.length 0 = z ++ (zi : Int) :: List.replicate t.length 0 := by simp
      have e3 : (((a ++ [(n : Int)]).length : Nat) : Int) = (a.length : Int) + 1 := by simp
      rw [e1, e2, hpq, hlen, e3] at key
      rw [hbe, hze, key, vl_snoc, hl, List.length_append, List.length_singleton, Nat.pow_succ, hvt, hvq, Int.toNat_natCast, Nat.add_assoc, Nat.mul_assoc, ← Nat.mul_add]
      congr 4
      omega
    simp only [smallbig_nat_sub.l0]
    rw [hlen, hzl, if_pos (by omega), if_pos (by omega), if_pos (by omega), rd_mid a t (n : Int) rfl, u64i (x := (n : Int)) (by omega) (by omega), Int.toNat_natCast, w64 (by omega) (by omega)]
    simp only [List.length_cons, List.replicate_succ]
    rw [set_mid z _ 0 _ hl.symm, set_mid z _ 0 _ hl.symm]
    cases q with
    | nil =>
      have hp := hq2 rfl
      have hpl : (((p ++ []).length : Nat) : Int) ≤ a.length := by simpa using hp
      rw [if_neg (by omega), if_pos (by omega)]
      have := step 0 [] p (by omega) (by simp [vl]) rfl hwp (by simp) (by intro _; omega) (by simp)
      simp only [Int.natCast_zero, Int.sub_zero] at this
      rw [u64w]
      exact this
    | cons e q =>
      have hp := hq1 (by simp)
      have he := wd_head (wd_right hwp)
      obtain ⟨e, rfl⟩ := Int.eq_ofNat_of_zero_le he.1
      have hpl : (((p ++ (e : Int) :: q).length : Nat) : Int) = a.length + q.length + 1 := by rw [len_mid]; omega
      simp only [List.length_cons] at hql
      rw [hpl, if_pos (by omega), if_pos (by omega), rd_mid p q (e : Int) (by omega), u64i (x := (e : Int)) (by omega) (by omega), u64w, u64w]
      have hmm : ((((n : Int) - b) % 18446744073709551616) - e) % 18446744073709551616 = ((n : Int) - b - e) % 18446744073709551616 := by omega
      rw [hmm]
      exact step e q (p ++ [(e : Int)]) (by omega) (by rw [vl, Int.toNat_natCast]) (by simp) (by simpa using hwp) (by intro _; simp [hp]) (by intro _; simp [hp]) (by omega)
theorem sub_f (m n : Nat) (hle : n ≤ m) (hm : (dg m).length < 70368744177000) {k : Nat} (hk : 2 * (dg m).length + 4 < k) :
    smallbig_nat_sub.f k (dg m) (dg n) = some (dg (m - n)) := by
  unfold smallbig_nat_sub.f
  rw [if_pos (by omega), if_pos (by omega), Int.toNat_natCast]
  have hlen : (dg n).length ≤ (dg m).length := dg_len_le (Nat.lt_of_le_of_lt hle (lt_dg_len m))
  have := sub_l0 (dg m) (dg n) [] [] [] 0 k (by simpa using wd_dg m) (by simpa using wd_dg n) wd_nil rfl (by simp) (by simp) (by omega) (by rw [vl_dg, vl_dg]; omega) hlen (by simp; omega) (by simp; omega)
  simp only [List.nil_append, List.length_nil, Nat.pow_zero, Nat.one_mul, vl, Nat.zero_add, vl_dg, Nat.sub_zero] at this
  exact this

/-! ### lsh by 7 -/
theorem or32 {h v : Int} (h0 : 0 ≤ h) (h1 : h < 128) (v0 : 0 ≤ v) (v1 : v < 4294967296) (hv : v % 128 = 0) : Go.bits .or .u32 h v = h + v := by
  have e : Go.bits .or .u32 h v = Go.bits .or .u32 v h := by
    obtain ⟨a, rfl⟩ := Int.eq_ofNat_of_zero_le h0
    obtain ⟨b, rfl⟩ := Int.eq_ofNat_of_zero_le v0
    have hk : ∀ n : Int, 0 ≤ n → n < 2 ^ 32 → IntKind.u32.wrap n = n := fun n a b => by rw [IntKind.wrap_u32]; omega
    rw [(bits_nat .u32 32 (by decide) hk a b (by omega) (by omega)).2, (bits_nat .u32 32 (by decide) hk b a (by omega) (by omega)).2, Nat.or_comm]
  rw [e, bits_join .u32 32 (by decide) (fun n a b => by rw [IntKind.wrap_u32]; omega) 7 v h v0 (by omega) (by omega) h0 (by omega) (by omega)]
  omega
theorem shl7 {d : Int} (h0 : 0 ≤ d) (h1 : d < 4294967296) : shl .u64 (IntKind.u64.wrap d) 7 = d * 128 := by
  unfold shl
  rw [u64i h0 (by omega), show min (7 : Int).toNat IntKind.u64.bits = 7 from by decide, u64i (by omega) (by omega)]
  omega
theorem lsh_l0 : ∀ (t a z : List Int) (h k : Nat), Wd (a ++ t) → Wd z → z.length = a.length → h < 128 → a.length + t.length < 70368744177000 → 2 * t.length + a.length + 4 < k →
    smallbig_nat_lsh.l0 k 0 7 (z ++ (h : Int) :: List.replicate t.length 0) (a ++ t) ((a ++ t).length : Int) (a.length : Int)
      = some (dg (vl z + 4294967296 ^ a.length * (vl t * 128 + h))) := by
  intro t
  induction t with
  | nil =>
    intro a z h k hw hz hl hh hn hk
    obtain ⟨k, rfl⟩ : ∃ m, k = m + 1 := ⟨k - 1, by omega⟩
    simp only [smallbig_nat_lsh.l0]
    rw [if_neg (by simp)]
    simp only [List.length_nil, List.replicate_zero]
    simp only [List.length_nil] at hn hk
    rw [norm_f (wd_app hz (wd_cons (by omega) (by omega) wd_nil)) (by simp; omega) (by simp; omega)]
    simp only [Option.bind_some]
    rw [vl_snoc, hl, Int.toNat_natCast, vl]; simp
  | cons d t ih =>
    intro a z h k hw hz hl hh hn hk
    obtain ⟨k, rfl⟩ : ∃ m, k = m + 1 := ⟨k - 1, by omega⟩
    have hd : 0 ≤ d ∧ d < 4294967296 := wd_head (wd_right hw)
    obtain ⟨n, rfl⟩ := Int.eq_ofNat_of_zero_le hd.1
    have hlen : ((a ++ (n : Int) :: t).length : Int) = (a.length : Int) + t.length + 1 := by rw [len_mid]; omega
    simp only [List.length_cons] at hn hk
    have hzl : ((z ++ (h : Int) :: List.replicate (((n : Int) :: t).length) 0).length : Int) = (a.length : Int) + t.length + 2 := by simp [hl]; omega
    simp only [smallbig_nat_lsh.l0]
    rw [hlen, hzl, if_pos (by omega), if_pos (by omega), if_pos (by omega), if_pos (by omega), rd_mid a t (n : Int) rfl, Int.add_zero, w64 (x := (a.length : Int)) (by omega) (by omega), w64 (x := (a.length : Int) + 1) (by omega) (by omega),
      if_pos (by omega), if_pos (by omega), if_pos (by omega), if_pos (by omega), shl7 hd.1 hd.2, rd_mid z _ (h : Int) (by omega), or32 (by omega) (by omega) (by omega) (by omega) (by omega), Int.toNat_natCast]
    simp only [List.length_cons, List.replicate_succ]
    rw [set_mid z _ (h : Int) _ hl.symm, show ((a.length : Int) + 1).toNat = a.length + 1 from by omega]
    have e0 : z ++ ((h : Int) + (n : Int) * 128 % 4294967296) :: 0 :: List.replicate t.length 0 = (z ++ [((h : Int) + (n : Int) * 128 % 4294967296)]) ++ 0 :: List.replicate t.length 0 := by simp
    rw [e0, set_mid _ _ 0 _ (by simp [hl])]
    have e4 : ((n : Int) * 128 / 4294967296 % 4294967296) = ((n * 128 / 4294967296 : Nat) : Int) := by omega
    have e5 : ((h : Int) + (n : Int) * 128 % 4294967296) = ((h + n * 128 % 4294967296 : Nat) : Int) := by omega
    rw [e4, e5]
    have key := ih (a ++ [(n : Int)]) (z ++ [((h + n * 128 % 4294967296 : Nat) : Int)]) (n * 128 / 4294967296) k (by simpa using hw) (wd_app hz (wd_cons (by omega) (by omega) wd_nil)) (by simp [hl]) (by omega) (by simp; omega) (by simp; omega)
    have e1 : a ++ [(n : Int)] ++ t = a ++ (n : Int) :: t := by simp
    have e3 : (((a ++ [(n : Int)]).length : Nat) : Int) = (a.length : Int) + 1 := by simp
    rw [e1, hlen, e3] at key
    rw [key, vl_snoc, hl, List.length_append, List.length_singleton, Nat.pow_succ, vl, Int.toNat_natCast, Int.toNat_natCast, Nat.add_assoc, Nat.mul_assoc, ← Nat.mul_add]
    congr 4
    have := Nat.div_add_mod (n * 128) 4294967296
    omega
theorem lsh7_f (n : Nat) (hn : (dg n).length < 70368744177000) {k : Nat} (hk : 2 * (dg n).length + 4 < k) : smallbig_nat_lsh.f k (dg n) 7 = some (dg (n * 128)) := by
  unfold smallbig_nat_lsh.f
  by_cases h : n = 0
  · subst h; rw [dg_zero]; simp
  · have hp := dg_len_pos h
    rw [if_neg (by omega), show (Int.tdiv 7 32) = 0 from by decide, show (Int.tmod 7 32) = 7 from by decide, u64i (by omega) (by omega), w64 (x := 0) (by omega) (by omega), Int.add_zero, w64 (x := ((dg n).length : Int)) (by omega) (by omega), w64 (x := ((dg n).length : Int) + 1) (by omega) (by omega), if_pos (by omega), if_pos (by omega),
      show (((dg n).length : Int) + 1).toNat = (dg n).length + 1 from by omega]
    have := lsh_l0 (dg n) [] [] 0 k (by simpa using wd_dg n) wd_nil rfl (by omega) (by simpa using hn) (by simpa using hk)
    simp only [List.nil_append, List.length_nil, Nat.pow_zero, Nat.one_mul, vl, Nat.zero_add, vl_dg, Nat.add_zero] at this
    rw [List.replicate_succ]
    exact this

/-! ### divW -/
theorem or64 {c d : Int} (c0 : 0 ≤ c) (c1 : c < 4294967296) (d0 : 0 ≤ d) (d1 : d < 4294967296) : Go.bits .or .u64 (c * 4294967296) d = c * 4294967296 + d :=
  bits_join .u64 64 (by decide) (fun n a b => u64i a (by omega)) 32 _ _ (by omega) (by omega) (by omega) d0 (by omega) (by omega)
theorem divW_l0 (y : Nat) (hy0 : 0 < y) (hy : y < 4294967296) : ∀ (m : Nat) (a s qs : List Int) (c k : Nat), a.length = m → Wd a → Wd qs → c < y → qs.length = s.length → m + s.length < 4611686018427387904 → 2 * m + qs.length + 4 < k →
    smallbig_nat_divW.l0 k (a ++ s) (y : Int) (List.replicate m 0 ++ qs) (c : Int) ((m : Int) - 1)
      = some (dg ((c * 4294967296 ^ m + vl a) / y + 4294967296 ^ m * vl qs), (((c * 4294967296 ^ m + vl a) % y : Nat) : Int)) := by
  intro m
  induction m with
  | zero =>
    intro a s qs c k ha hw hq hc hl hn hk
    obtain ⟨k, rfl⟩ : ∃ m, k = m + 1 := ⟨k - 1, by omega⟩
    obtain rfl : a = [] := List.eq_nil_of_length_eq_zero ha
    simp only [smallbig_nat_divW.l0]
    rw [if_neg (by omega), List.replicate_zero, List.nil_append, norm_f hq (by omega) (by omega)]
    simp only [Option.bind_some, vl, Nat.pow_zero, Nat.mul_one, Nat.add_zero, Nat.one_mul]
    rw [Nat.div_eq_of_lt hc, Nat.zero_add, Nat.mod_eq_of_lt hc]
    congr 2; omega
  | succ m ih =>
    intro a s qs c k ha hw hq hc hl hn hk
    obtain ⟨k, rfl⟩ : ∃ m, k = m + 1 := ⟨k - 1, by omega⟩
    rcases List.eq_nil_or_concat a with rfl | ⟨a, d, rfl⟩
    · simp at ha
    simp only [List.concat_eq_append] at *
    have ha' : a.length = m := by simpa using ha
    have hd := hw d (by simp)
    obtain ⟨n, rfl⟩ := Int.eq_ofNat_of_zero_le hd.1
    have e1 : (a ++ [(n : Int)]) ++ s = a ++ (n : Int) :: s := by simp
    have el1 : ((a ++ (n : Int) :: s).length : Int) = m + s.length + 1 := by rw [len_mid]; omega
    have e2 : List.replicate (m + 1) (0 : Int) ++ qs = List.replicate m 0 ++ 0 :: qs := by rw [List.replicate_succ', List.append_assoc]; rfl
    have el2 : ((List.replicate m (0 : Int) ++ 0 :: qs).length : Int) = m + qs.length + 1 := by rw [len_mid]; simp
    simp only [smallbig_nat_divW.l0]
    have hc1 : ((c : Int) * 4294967296 + n) = ((c * 4294967296 + n : Nat) : Int) := by omega
    have hlt : (c * 4294967296 + n) / y < 4294967296 := by
      apply Nat.div_lt_of_lt_mul
      have : (c + 1) * 4294967296 ≤ y * 4294967296 := Nat.mul_le_mul_right _ hc
      omega
    obtain ⟨Q, hQ⟩ : ∃ Q : Nat, Q = (c * 4294967296 + n) / y := ⟨_, rfl⟩
    obtain ⟨R, hR⟩ : ∃ R : Nat, R = (c * 4294967296 + n) % y := ⟨_, rfl⟩
    have hRy : R < y := by rw [hR]; exact Nat.mod_lt _ hy0
    have hT : Int.tdiv ((c * 4294967296 + n : Nat) : Int) (y : Int) = (Q : Int) := by rw [← Int.ofNat_tdiv, hQ]
    have hM : Int.tmod ((c * 4294967296 + n : Nat) : Int) (y : Int) = (R : Int) := by rw [← Int.ofNat_tmod, hR]
    rw [← hQ] at hlt
    rw [e1, e2, el1, el2, show ((m + 1 : Nat) : Int) - 1 = (m : Int) from by omega, if_pos (by omega), if_pos (by omega), if_pos (by omega), rd_mid a s (n : Int) (by omega),
      u64i (x := (y : Int)) (by omega) (by omega), if_neg (by omega), if_pos (by omega), u64i (x := (c : Int) * 4294967296) (by omega) (by omega), u64i (x := (n : Int)) (by omega) (by omega), or64 (by omega) (by omega) (by omega) (by omega), hc1,
      hT, hM, u64i (x := (Q : Int)) (by omega) (by omega), w64 (by omega) (by omega), Int.toNat_natCast, set_mid _ _ 0 _ (by simp),
      show (Q : Int) % 4294967296 = (Q : Int) from by omega]
    have key := ih a ((n : Int) :: s) ((Q : Int) :: qs) R k ha' (wd_left hw) (wd_cons (by omega) (by omega) hq) hRy (by simp [hl]) (by simp; omega) (by simp; omega)
    clear hT hM
    rw [key, vl_snoc, ha', Int.toNat_natCast, vl, Int.toNat_natCast, Nat.pow_succ]
    have hN : c * (4294967296 ^ m * 4294967296) + (vl a + 4294967296 ^ m * n) = (c * 4294967296 + n) * 4294967296 ^ m + vl a := by
      rw [Nat.add_mul, Nat.mul_comm (4294967296 ^ m) 4294967296, ← Nat.mul_assoc, Nat.mul_comm n]; omega
    rw [hN, hQ, hR]
    have hdm := Nat.div_add_mod (c * 4294967296 + n) y
    generalize c * 4294967296 + n = X at *
    generalize 4294967296 ^ m = P at *
    have hX : X * P + vl a = y * (X / y * P) + (X % y * P + vl a) := by
      have e : X * P = y * (X / y) * P + X % y * P := by rw [← Nat.add_mul, hdm]
      rw [← Nat.mul_assoc]; omega
    have hq2 : (X * P + vl a) / y = X / y * P + (X % y * P + vl a) / y := by rw [hX, Nat.mul_add_div hy0]
    have hr2 : (X * P + vl a) % y = (X % y * P + vl a) % y := by rw [hX, Nat.mul_add_mod]
    rw [hq2, hr2]
    congr 3
    rw [Nat.mul_add, Nat.mul_comm P (X / y), ← Nat.mul_assoc P 4294967296]; omega
theorem divW_f (n y : Nat) (hy0 : 0 < y) (hy : y < 4294967296) (hn : (dg n).length < 70368744177000) {k : Nat} (hk : 2 * (dg n).length + 4 < k) :
    smallbig_nat_divW.f k (dg n) (y : Int) = some (dg (n / y), ((n % y : Nat) : Int)) := by
  unfold smallbig_nat_divW.f
  rw [if_pos (by omega), if_pos (by omega), Int.toNat_natCast, w64 (by omega) (by omega)]
  have := divW_l0 y hy0 hy (dg n).length (dg n) [] [] 0 k rfl (wd_dg n) wd_nil hy0 rfl (by simp; omega) (by simpa using hk)
  simp only [List.append_nil, Nat.zero_mul, Nat.zero_add, vl, Nat.mul_zero, Nat.add_zero, vl_dg] at this
  exact this
end Go.Proofs.YtiopgkdldkkonaaDoor.Num

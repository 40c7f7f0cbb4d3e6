/-
  PLAIN LEAN: what the printed function 'add' of the package's whole numbers comes to: the sum.
  PLAIN LEAN: what the printed function 'bitLen' of the package's whole numbers comes to.
  PLAIN LEAN: the arithmetic of a shift to the right, digit by digit; a number's higher digits.
-/
import Derived.Test.YtiopgkdldkkonaaDoorZNat
import Derived.Test.YtiopgkdldkkonaaDoorZP9
import Derived.Test.YtiopgkdldkkonaaDoorZP2
import Derived.Lib.EndianBits
import Derived.Test.YtiopgkdldkkonaaDoorZP3
namespace Go.Proofs.YtiopgkdldkkonaaDoor.Num
open Go.Proofs.YtiopgkdldkkonaaDoorW.PrintWords Go.Proofs.YtiopgkdldkkonaaDoorW.PrintMore Go.RowKit Go.Proofs.YtiopgkdldkkonaaDoor.Pn
set_option linter.unusedVariables false
set_option linter.unusedSimpArgs false

/-- The digit under way and the rest, of a number that may be at its end. -/
def hd0 : List Int → Int
  | [] => 0
  | d :: _ => d
theorem vl_hd (t : List Int) : vl t = (hd0 t).toNat + 4294967296 * vl t.tail := by
  cases t with
  | nil => simp [vl, hd0]
  | cons d t => simp [vl, hd0]
theorem add_step {a t a' t' z : List Int} {n : Int} {c k : Nat} (hn0 : 0 ≤ n) (hn1 : n < 4294967296) (hw' : Wd (a' ++ t')) (hz : z.length = a.length) (hc : c ≤ 1) (hl : a'.length ≤ a.length) (he : t' ≠ [] → a'.length = a.length) (hlen : a.length + t.length < 70368744177000) :
    smallbig_nat_add.l0 (k + 1) (a ++ n :: t) (a' ++ t') (z ++ List.replicate (t.length + 2) 0) (c : Int) ((a ++ n :: t).length : Int) (a.length : Int)
      = smallbig_nat_add.l0 k (a ++ n :: t) (a' ++ t') ((z ++ [(((c + n.toNat + (hd0 t').toNat : Nat) : Int) % 4294967296)]) ++ List.replicate (t.length + 1) 0) (((c + n.toNat + (hd0 t').toNat) / 4294967296 : Nat) : Int) ((a ++ n :: t).length : Int) ((a.length : Int) + 1) := by
  have hlenn : ((a ++ n :: t).length : Int) = (a.length : Int) + t.length + 1 := by rw [len_mid]; omega
  have hzl : ((z ++ List.replicate (t.length + 2) 0).length : Int) = (a.length : Int) + t.length + 2 := by simp [hz]; omega
  simp only [smallbig_nat_add.l0]
  rw [hlenn, hzl, if_pos (by omega), if_pos (by omega), if_pos (by omega)]
  have hset : ∀ u : Int, (z ++ List.replicate (t.length + 2) 0).set (a.length : Int).toNat u = (z ++ [u]) ++ List.replicate (t.length + 1) 0 := fun u => by
    rw [Int.toNat_natCast, List.replicate_succ, set_mid z _ 0 _ hz.symm]; simp
  by_cases ht : t' = []
  · subst ht
    have hx1 : ((a' ++ []).length : Int) = (a'.length : Int) := by simp
    rw [hx1, if_neg (by omega), if_pos (by omega), rd_mid a t n rfl, u64i (x := n) hn0 (by omega), u64i (x := (c : Int) + n) (by omega) (by omega), hset, w64 (by omega) (by omega)]
    simp only [hd0]
    obtain ⟨v, hv⟩ : ∃ v, v = c + n.toNat + (0 : Int).toNat := ⟨_, rfl⟩
    have e1 : (c : Int) + n = (v : Int) := by rw [hv]; simp; omega
    have e2 : (v : Int) / 4294967296 = ((v / 4294967296 : Nat) : Int) := by omega
    rw [← hv, e1, e2]
  · obtain ⟨m, s, rfl⟩ := List.exists_cons_of_ne_nil ht
    have hal := he ht
    have hm : 0 ≤ m ∧ m < 4294967296 := wd_head (wd_right hw')
    have hx1 : ((a' ++ m :: s).length : Int) = (a.length : Int) + s.length + 1 := by rw [len_mid]; omega
    have hrd : rd (a' ++ m :: s) (a.length : Int) = m := by rw [← hal]; exact rd_mid a' s m rfl
    rw [hx1, if_pos (by omega), if_pos (by omega), rd_mid a t n rfl, hrd, u64i (x := n) hn0 (by omega), u64i (x := (c : Int) + n) (by omega) (by omega), u64i (x := m) hm.1 (by omega), u64i (x := (c : Int) + n + m) (by omega) (by omega), hset, w64 (by omega) (by omega)]
    simp only [hd0]
    obtain ⟨v, hv⟩ : ∃ v, v = c + n.toNat + m.toNat := ⟨_, rfl⟩
    have e1 : (c : Int) + n + m = (v : Int) := by rw [hv]; omega
    have e2 : (v : Int) / 4294967296 = ((v / 4294967296 : Nat) : Int) := by omega
    rw [← hv, e1, e2]
theorem add_l0 : ∀ (t t' a a' z : List Int) (c k : Nat), Wd (a ++ t) → Wd (a' ++ t') → Wd z → z.length = a.length → c ≤ 1 → a'.length ≤ a.length → (t' ≠ [] → a'.length = a.length) → t'.length ≤ t.length → a.length + t.length < 70368744177000 → 2 * (a.length + t.length) + t.length + 4 < k →
    smallbig_nat_add.l0 k (a ++ t) (a' ++ t') (z ++ List.replicate (t.length + 1) 0) (c : Int) ((a ++ t).length : Int) (a.length : Int) = some (dg (vl z + 4294967296 ^ a.length * (vl t + vl t' + c))) := by
  intro t
  induction t with
  | nil =>
    intro t' a a' z c k hw hw' hz hzl hc hl he ht hn hk
    obtain rfl : t' = [] := by
      cases t' with
      | nil => rfl
      | cons _ _ => simp at ht
    obtain ⟨k, rfl⟩ : ∃ m, k = m + 1 := ⟨k - 1, by omega⟩
    simp only [smallbig_nat_add.l0]
    have hlen : ((a ++ []).length : Int) = (a.length : Int) := by simp
    have hzl2 : ((z ++ List.replicate (([] : List Int).length + 1) 0).length : Int) = (a.length : Int) + 1 := by simp [hzl]
    rw [hlen, hzl2, if_neg (by omega), if_pos (by omega), if_pos (by omega), Int.toNat_natCast]
    simp only [List.length_nil, Nat.zero_add, List.replicate_succ, List.replicate_zero]
    rw [set_mid z [] 0 _ hzl.symm]
    have hc' : (c : Int) % 4294967296 = c := by omega
    have hwz : Wd (z ++ [(c : Int) % 4294967296]) := wd_app hz (wd_cons (by omega) (by omega) wd_nil)
    simp only [List.length_nil] at hn hk
    rw [norm_f hwz (by simp; omega) (by simp; omega)]
    simp only [Option.bind_some]
    rw [vl_snoc, hc', hzl, vl]; simp
  | cons n t ih =>
    intro t' a a' z c k hw hw' hz hzl hc hl he ht hn hk
    obtain ⟨k, rfl⟩ : ∃ m, k = m + 1 := ⟨k - 1, by omega⟩
    have hd : 0 ≤ n ∧ n < 4294967296 := wd_head (wd_right hw)
    simp only [List.length_cons] at hn hk ht
    have hrep : List.replicate ((n :: t).length + 1) (0 : Int) = List.replicate (t.length + 2) 0 := by simp
    rw [hrep, add_step hd.1 hd.2 hw' hzl hc hl he (by omega)]
    have hm : (hd0 t').toNat < 4294967296 := by
      cases t' with
      | nil => simp [hd0]
      | cons m s => have := wd_head (wd_right hw'); simp only [hd0]; omega
    obtain ⟨v, hv⟩ : ∃ v, v = c + n.toNat + (hd0 t').toNat := ⟨_, rfl⟩
    rw [← hv]
    have hv2 : v / 4294967296 ≤ 1 := by omega
    have hz' : Wd (z ++ [((v : Int) % 4294967296)]) := wd_app hz (wd_cons (by omega) (by omega) wd_nil)
    obtain ⟨b', hb', hbl, hbe⟩ : ∃ b', a' ++ t' = b' ++ t'.tail ∧ b'.length ≤ a.length + 1 ∧ (t'.tail ≠ [] → b'.length = a.length + 1) := by
      cases t' with
      | nil => exact ⟨a', rfl, by omega, fun h => absurd rfl h⟩
      | cons m s => exact ⟨a' ++ [m], by simp, by simp; omega, fun _ => by have := he (by simp); simp; omega⟩
    have key := ih t'.tail (a ++ [n]) b' (z ++ [((v : Int) % 4294967296)]) (v / 4294967296) k (by simpa using hw) (by rw [← hb']; exact hw') hz' (by simp [hzl]) hv2 (by simpa using hbl) (by simpa using hbe) (by simp; omega) (by simp; omega) (by simp; omega)
    have e1 : a ++ [n] ++ t = a ++ n :: t := by simp
    have e3 : (((a ++ [n]).length : Nat) : Int) = (a.length : Int) + 1 := by simp
    rw [e1, e3, ← hb'] at key
    rw [key]
    congr 2
    rw [vl_snoc, hzl, List.length_append, List.length_singleton, Nat.pow_succ, vl_hd (n :: t), vl_hd t']
    simp only [hd0, List.tail_cons]
    have e5 : ((v : Int) % 4294967296).toNat = v % 4294967296 := by omega
    rw [e5, Nat.add_assoc, Nat.mul_assoc, ← Nat.mul_add]
    congr 2
    rw [hv]
    cases t' <;> simp only [hd0] at * <;> omega
theorem add_f {m n : Nat} (h : (dg n).length ≤ (dg m).length) (hl : (dg m).length < 70368744177000) {k : Nat} (hk : 3 * (dg m).length + 4 < k) : smallbig_nat_add.f k (dg m) (dg n) = some (dg (m + n)) := by
  unfold smallbig_nat_add.f
  rw [w64 (by omega) (by omega), if_pos (by omega), if_pos (by omega)]
  have := add_l0 (dg m) (dg n) [] [] [] 0 k (by simpa using wd_dg m) (by simpa using wd_dg n) wd_nil rfl (by omega) (Nat.le_refl _) (fun _ => rfl) h (by simpa using hl) (by simp; omega)
  simp only [List.nil_append, List.length_nil, Nat.pow_zero, Nat.one_mul, vl, Nat.zero_add, vl_dg, Nat.add_zero] at this
  rw [show (((dg m).length : Int) + 1).toNat = (dg m).length + 1 from by omega]
  exact this
end Go.Proofs.YtiopgkdldkkonaaDoor.Num
namespace Go.Proofs.YtiopgkdldkkonaaDoor.Num
open Go.Proofs.YtiopgkdldkkonaaDoorW.PrintWords Go.Proofs.YtiopgkdldkkonaaDoorW.PrintMore Go.RowKit Go.Proofs.YtiopgkdldkkonaaDoor.Pn
set_option linter.unusedVariables false
set_option linter.unusedSimpArgs false

/-- How many binary digits a number has. -/
def bl (n : Nat) : Nat := if h : n = 0 then 0 else bl (n / 2) + 1
termination_by n
decreasing_by omega
theorem bl_zero : bl 0 = 0 := by unfold bl; simp
theorem bl_pos {n : Nat} (h : n ≠ 0) : bl n = bl (n / 2) + 1 := by rw [bl]; simp [h]
theorem bl_le {n k : Nat} (h : n < 2 ^ k) : bl n ≤ k := by
  induction k generalizing n with
  | zero => have : n = 0 := by simpa using h
            subst this; rw [bl_zero]; omega
  | succ k ih =>
    by_cases e : n = 0
    · subst e; rw [bl_zero]; omega
    · rw [bl_pos e]
      have := ih (n := n / 2) (by rw [Nat.pow_succ] at h; omega)
      omega
theorem lt_bl (n : Nat) : n < 2 ^ bl n := by
  induction n using Nat.strongRecOn with
  | ind n ih =>
    by_cases e : n = 0
    · subst e; rw [bl_zero]; decide
    · rw [bl_pos e, Nat.pow_succ]
      have := ih (n / 2) (by omega)
      omega
theorem bl_ge {n k : Nat} (h : 2 ^ k ≤ n) : k < bl n := by
  refine Nat.lt_of_not_le fun hle => ?_
  have h1 := lt_bl n
  have h2 : 2 ^ bl n ≤ 2 ^ k := Nat.pow_le_pow_right (by omega) hle
  omega
/-- Digits below: 32 more each. -/
theorem bl_mul {n a d : Nat} (hd : d ≠ 0) (hn : n < 2 ^ a) : bl (d * 2 ^ a + n) = bl d + a := by
  have h1 := lt_bl d
  have hb : bl d ≠ 0 := by rw [bl_pos hd]; omega
  have h3 : 2 ^ (bl d - 1) ≤ d := by
    refine Nat.le_of_not_lt fun hlt => ?_
    have := bl_le hlt
    omega
  have u : d * 2 ^ a + n < 2 ^ (bl d + a) := by
    rw [Nat.pow_add]
    have : (d + 1) * 2 ^ a ≤ 2 ^ bl d * 2 ^ a := Nat.mul_le_mul_right _ (by omega)
    rw [Nat.add_mul] at this; omega
  have v : 2 ^ (bl d - 1 + a) ≤ d * 2 ^ a + n := by
    rw [Nat.pow_add]
    have : 2 ^ (bl d - 1) * 2 ^ a ≤ d * 2 ^ a := Nat.mul_le_mul_right _ h3
    omega
  have := bl_le u
  have := bl_ge v
  omega

theorem bitLen_l0 (d : Nat) : ∀ n : Int, 0 ≤ n → n + d < 4611686018427387904 → Ev (fun k => smallbig_nat_bitLen.l0 k n (d : Int)) (n + bl d) := by
  induction d using Nat.strongRecOn with
  | ind d ih =>
    intro n h0 h1
    by_cases e : d = 0
    · subst e
      refine Ev.step (f := fun _ => some (n + (bl 0 : Nat))) (fun k => ?_) (Ev.now _)
      simp only [smallbig_nat_bitLen.l0]
      rw [if_pos (by simp), bl_zero]; simp
    · have key := ih (d / 2) (by omega) (n + 1) (by omega) (by omega)
      have e2 : n + 1 + (bl (d / 2) : Int) = n + (bl d : Nat) := by rw [bl_pos e]; omega
      rw [e2] at key
      refine Ev.step (fun k => ?_) key
      simp only [smallbig_nat_bitLen.l0]
      rw [if_neg (by omega), w64 (by omega) (by omega)]
      have e3 : (d : Int) / 2 = ((d / 2 : Nat) : Int) := by omega
      rw [e3]
theorem bitLen_f (n : Nat) (hl : (dg n).length < 1000000) : Ev (fun k => smallbig_nat_bitLen.f k (dg n)) (bl n : Int) := by
  by_cases h : n = 0
  · subst h
    refine Ev.congr (f := fun _ => some ((bl 0 : Nat) : Int)) (fun k => ?_) (Ev.now _)
    unfold smallbig_nat_bitLen.f
    rw [dg_zero, if_pos (by simp), bl_zero]; rfl
  · have hlp := dg_len_pos h
    rcases List.eq_nil_or_concat (dg n) with e | ⟨z, d, e⟩
    · rw [e] at hlp; simp at hlp
    · rw [List.concat_eq_append] at e
      have hw := wd_dg n
      have hlen : (dg n).length = z.length + 1 := by rw [e]; simp
      have hv : n = vl z + 4294967296 ^ z.length * d.toNat := by rw [← vl_snoc, ← e, vl_dg]
      have hz : vl z < 4294967296 ^ z.length := vl_lt (wd_left (m := [d]) (by rw [← e]; exact hw))
      have hd : 0 ≤ d ∧ d < 4294967296 := wd_head (wd_right (l := z) (by rw [← e]; exact hw))
      have hge := dg_ge h
      rw [hlen, Nat.add_sub_cancel] at hge
      have hd0 : d.toNat ≠ 0 := by
        intro e0
        rw [e0, Nat.mul_zero] at hv
        omega
      obtain ⟨t, rfl⟩ := Int.eq_ofNat_of_zero_le hd.1
      simp only [Int.toNat_natCast] at hv hd0
      have hp : 4294967296 ^ z.length = 2 ^ (32 * z.length) := by rw [Nat.pow_mul]
      rw [hp] at hv hz
      have hbl : bl n = bl t + 32 * z.length := by
        rw [hv, Nat.add_comm, Nat.mul_comm]
        exact bl_mul hd0 hz
      have key := bitLen_l0 t (32 * (z.length : Int)) (by omega) (by omega)
      have e2 : 32 * (z.length : Int) + (bl t : Int) = (bl n : Int) := by omega
      rw [e2] at key
      refine Ev.congr (fun k => ?_) key
      unfold smallbig_nat_bitLen.f
      have hl2 : ((dg n).length : Int) = (z.length : Int) + 1 := by omega
      rw [hl2, if_neg (by omega), w64 (by omega) (by omega), if_pos (by omega), if_pos (by omega)]
      have e3 : (z.length : Int) + 1 - 1 = (z.length : Int) := by omega
      rw [e3, w64 (by omega) (by omega), e, rd_snoc]
end Go.Proofs.YtiopgkdldkkonaaDoor.Num
namespace Go.Proofs.YtiopgkdldkkonaaDoor.Num
open Go.Proofs.YtiopgkdldkkonaaDoorW.PrintWords Go.Proofs.YtiopgkdldkkonaaDoorW.PrintMore Go.RowKit Go.Proofs.YtiopgkdldkkonaaDoor.Pn
set_option linter.unusedVariables false
set_option linter.unusedSimpArgs false

theorem dg_drop (n q : Nat) : (dg n).drop q = dg (n / 4294967296 ^ q) := by
  induction q generalizing n with
  | zero => simp
  | succ q ih =>
    by_cases e : n = 0
    · subst e; simp [dg_zero]
    · rw [dg_pos e, List.drop_succ_cons, ih, Nat.pow_succ, Nat.mul_comm, Nat.div_div_eq_div_mul]
/-- The shifted number's lowest digit, and the rest. -/
theorem shr_low {d e R P : Nat} (s : Nat) (hP : R * P = 4294967296) (hR : 0 < R) (hP0 : 0 < P) :
    ((d + 4294967296 * (e + 4294967296 * s)) / R) % 4294967296 = ((d + e * 4294967296) / R) % 4294967296 := by
  have h1 : d + 4294967296 * (e + 4294967296 * s) = (d + e * 4294967296) + R * (P * 4294967296 * s) := by
    have h2 : R * (P * 4294967296 * s) = 4294967296 * 4294967296 * s := by
      rw [Nat.mul_assoc P, ← Nat.mul_assoc R P, hP, Nat.mul_assoc]
    rw [h2]; omega
  rw [h1, Nat.add_mul_div_left _ _ hR]
  have h3 : P * 4294967296 * s = 4294967296 * (P * s) := by rw [Nat.mul_comm P, Nat.mul_assoc]
  rw [h3, Nat.add_mul_mod_self_left]
theorem shr_rest {d R : Nat} (v : Nat) (hd : d < 4294967296) : ((d + 4294967296 * v) / R) / 4294967296 = v / R := by
  rw [Nat.div_div_eq_div_mul, Nat.mul_comm R, ← Nat.div_div_eq_div_mul]
  congr 1
  omega

/-- The digits of a shifted number. -/
def sh (R : Nat) : List Int → List Int
  | [] => []
  | d :: t => ((((d.toNat + (hd0 t).toNat * 4294967296) / R % 4294967296 : Nat)) : Int) :: sh R t
theorem sh_len (R : Nat) (t : List Int) : (sh R t).length = t.length := by
  induction t with
  | nil => rfl
  | cons d t ih => simp [sh, ih]
theorem sh_wd (R : Nat) (t : List Int) : Wd (sh R t) := by
  induction t with
  | nil => exact wd_nil
  | cons d t ih => exact wd_cons (by omega) (by omega) ih
theorem sh_vl {R P : Nat} (hP : R * P = 4294967296) (hR : 0 < R) (hP0 : 0 < P) : ∀ t : List Int, Wd t → vl (sh R t) = vl t / R := by
  intro t
  induction t with
  | nil => intro _; simp [sh, vl]
  | cons d t ih =>
    intro hw
    have hd := wd_head hw
    have hlow := shr_low (d := d.toNat) (e := (hd0 t).toNat) (R := R) (P := P) (vl t.tail) hP hR hP0
    have hrest := shr_rest (d := d.toNat) (R := R) (vl t) (by omega)
    simp only [sh, vl]
    rw [ih (wd_tail hw), Int.toNat_natCast, ← hlow, ← vl_hd t, ← hrest]
    have := Nat.div_add_mod ((d.toNat + 4294967296 * vl t) / R) 4294967296
    omega

theorem shr_nat (V r : Nat) (hr : r < 32) : shr .u64 (V : Int) (r : Int) = ((V / 2 ^ r : Nat) : Int) := by
  unfold shr
  rw [Int.toNat_natCast, show min r IntKind.u64.bits = r from by simp [IntKind.bits]; omega]
  simp
theorem rsh_l0 (r : Nat) (hr : r < 32) : ∀ (t a z : List Int) (k : Nat), Wd (a ++ t) → Wd z → z.length = a.length → a.length + t.length < 70368744177000 → 2 * (a.length + t.length) + t.length + 4 < k →
    smallbig_nat_rsh.l0 k (a ++ t) (r : Int) (z ++ List.replicate t.length 0) ((a ++ t).length : Int) (a.length : Int) = some (dg (vl (z ++ sh (2 ^ r) t))) := by
  intro t
  induction t with
  | nil =>
    intro a z k hw hz hzl hn hk
    obtain ⟨k, rfl⟩ : ∃ m, k = m + 1 := ⟨k - 1, by omega⟩
    simp only [smallbig_nat_rsh.l0]
    have hlen : ((a ++ []).length : Int) = (a.length : Int) := by simp
    simp only [List.length_nil] at hn hk
    rw [hlen, if_neg (by omega)]
    simp only [List.length_nil, List.replicate_zero, List.append_nil, sh]
    rw [norm_f hz (by omega) (by omega)]
    rfl
  | cons d t ih =>
    intro a z k hw hz hzl hn hk
    obtain ⟨k, rfl⟩ : ∃ m, k = m + 1 := ⟨k - 1, by omega⟩
    have hd : 0 ≤ d ∧ d < 4294967296 := wd_head (wd_right hw)
    simp only [List.length_cons] at hn hk
    have hlen : ((a ++ d :: t).length : Int) = (a.length : Int) + t.length + 1 := by rw [len_mid]; omega
    have hzlen : ((z ++ List.replicate (t.length + 1) 0).length : Int) = (a.length : Int) + t.length + 1 := by simp [hzl]; omega
    have hset : ∀ u : Int, (z ++ List.replicate (t.length + 1) 0).set (a.length : Int).toNat u = (z ++ [u]) ++ List.replicate t.length 0 := fun u => by
      rw [Int.toNat_natCast, List.replicate_succ, set_mid z _ 0 _ hzl.symm]; simp
    have hm : (hd0 t).toNat < 4294967296 := by
      cases t with
      | nil => simp [hd0]
      | cons m s => have := wd_head (wd_tail (wd_right (l := a) hw)); simp only [hd0]; omega
    obtain ⟨u, hu⟩ : ∃ u : Nat, u = (d.toNat + (hd0 t).toNat * 4294967296) / 2 ^ r % 4294967296 := ⟨_, rfl⟩
    have hz' : Wd (z ++ [(u : Int)]) := wd_app hz (wd_cons (by omega) (by omega) wd_nil)
    have key := ih (a ++ [d]) (z ++ [(u : Int)]) k (by simpa using hw) hz' (by simp [hzl]) (by simp; omega) (by simp; omega)
    have e1 : a ++ [d] ++ t = a ++ d :: t := by simp
    have e3 : (((a ++ [d]).length : Nat) : Int) = (a.length : Int) + 1 := by simp
    rw [e1, e3, hlen] at key
    have efin : z ++ [(u : Int)] ++ sh (2 ^ r) t = z ++ sh (2 ^ r) (d :: t) := by simp only [sh, hu]; simp
    rw [efin] at key
    rw [← key]
    simp only [smallbig_nat_rsh.l0, List.length_cons]
    rw [hlen, hzlen, if_pos (by omega), if_pos (by omega), if_pos (by omega), w64 (by omega) (by omega)]
    cases t with
    | nil =>
      simp only [List.length_nil] at *
      rw [if_neg (by omega), if_pos (by omega), if_pos (by omega), rd_mid a [] d rfl, u64i (x := d) hd.1 (by omega), hset]
      have e : d = ((d.toNat : Nat) : Int) := by omega
      have e5 : shr .u64 d (r : Int) % 4294967296 = (u : Int) := by
        rw [e, shr_nat _ _ hr, hu]; simp [hd0]
      rw [e5]
    | cons m s =>
      have hm' : 0 ≤ m ∧ m < 4294967296 := wd_head (wd_tail (wd_right (l := a) hw))
      simp only [List.length_cons] at *
      have hrd : rd (a ++ d :: m :: s) ((a.length : Int) + 1) = m := by
        have e9 : a ++ d :: m :: s = (a ++ [d]) ++ m :: s := by simp
        rw [e9]; exact rd_mid _ s m (by simp)
      rw [if_pos (by omega), if_pos (by omega), if_pos (by omega), if_pos (by omega), rd_mid a (m :: s) d rfl, hrd, u64i (x := d) hd.1 (by omega), u64i (x := m) hm'.1 (by omega), u64i (x := m * 4294967296) (by omega) (by omega), hset]
      have hor : Go.bits .or .u64 d (m * 4294967296) = d + m * 4294967296 :=
        Go.bits_join_low .u64 64 (by decide) (fun n a b => by rw [IntKind.wrap_u64]; omega) 32 d (m * 4294967296) hd.1 (by omega) (by omega) (by omega) (by omega) (by omega)
      have e : d + m * 4294967296 = ((d.toNat + m.toNat * 4294967296 : Nat) : Int) := by omega
      have e5 : shr .u64 (Go.bits .or .u64 d (m * 4294967296)) (r : Int) % 4294967296 = (u : Int) := by
        rw [hor, e, shr_nat _ _ hr, hu]; simp [hd0]
      rw [e5]

theorem rsh_f (n s : Nat) (hs : s < 1000000) (hl : (dg n).length < 1000000) {k : Nat} (hk : 3 * (dg n).length + 8 < k) : smallbig_nat_rsh.f k (dg n) (s : Int) = some (dg (n / 2 ^ s)) := by
  unfold smallbig_nat_rsh.f
  have e1 : IntKind.u64.wrap (Int.tdiv (s : Int) 32) = ((s / 32 : Nat) : Int) := by
    rw [show (32 : Int) = ((32 : Nat) : Int) from rfl, ← Int.ofNat_tdiv, u64i (by omega) (by omega)]
  have e2 : Int.tmod (s : Int) 32 = ((s % 32 : Nat) : Int) := by rw [show (32 : Int) = ((32 : Nat) : Int) from rfl, ← Int.ofNat_tmod]
  have hpow : 2 ^ s = 4294967296 ^ (s / 32) * 2 ^ (s % 32) := by
    have h1 : (4294967296 : Nat) ^ (s / 32) = 2 ^ (32 * (s / 32)) := by rw [Nat.pow_mul]
    rw [h1, ← Nat.pow_add]
    congr 1; omega
  rw [e1, e2, u64i (x := ((dg n).length : Int)) (by omega) (by omega)]
  by_cases hq : (dg n).length ≤ s / 32
  · rw [if_pos (by omega)]
    have h1 := lt_dg_len n
    have h2 : 4294967296 ^ (dg n).length ≤ 4294967296 ^ (s / 32) := Nat.pow_le_pow_right (by omega) hq
    have h3 : 0 < 2 ^ (s % 32) := Nat.pow_pos (by omega)
    have h4 : 4294967296 ^ (s / 32) * 1 ≤ 4294967296 ^ (s / 32) * 2 ^ (s % 32) := Nat.mul_le_mul_left _ h3
    have h5 : n / 2 ^ s = 0 := Nat.div_eq_of_lt (by rw [hpow]; omega)
    rw [h5, dg_zero]
  · have hdl : ((dg n).drop (s / 32)).length = (dg n).length - s / 32 := by simp
    rw [if_neg (by omega), if_pos (by omega), if_pos (by omega), Int.toNat_natCast, if_pos (by omega), Int.toNat_natCast, if_pos (by omega), dg_drop]
    rw [dg_drop] at hdl
    have key := rsh_l0 (s % 32) (by omega) (dg (n / 4294967296 ^ (s / 32))) [] [] k (by simpa using wd_dg _) wd_nil rfl (by simp; omega) (by simp; omega)
    simp only [List.nil_append, List.length_nil] at key
    have hP : 2 ^ (s % 32) * 2 ^ (32 - s % 32) = 4294967296 := by
      rw [← Nat.pow_add, show s % 32 + (32 - s % 32) = 32 from by omega]
    rw [sh_vl hP (Nat.pow_pos (by omega)) (Nat.pow_pos (by omega)) _ (wd_dg _), vl_dg, Nat.div_div_eq_div_mul, ← hpow] at key
    exact key

/-- The lowest two digits, as one number. -/
theorem low64_f (n : Nat) (hl : (dg n).length < 1000000) {k : Nat} (hk : 3 < k) : smallbig_nat_low64.f k (dg n) = some ((n % 18446744073709551616 : Nat) : Int) := by
  obtain ⟨k, rfl⟩ : ∃ m, k = m + 1 + 1 + 1 := ⟨k - 3, by omega⟩
  unfold smallbig_nat_low64.f
  have hsh0 : ∀ x : Int, 0 ≤ x → x < 4294967296 → shl .u64 x 0 = x := fun x h0 h1 => by
    unfold shl; simp; rw [u64i h0 (by omega)]
  have hsh1 : ∀ x : Int, 0 ≤ x → x < 4294967296 → shl .u64 x 32 = x * 4294967296 := fun x h0 h1 => by
    unfold shl
    rw [show min (32 : Int).toNat IntKind.u64.bits = 32 from by simp [IntKind.bits]]
    rw [show (2 : Int) ^ 32 = 4294967296 from by decide, u64i (by omega) (by omega)]
  have hor0 : ∀ x : Int, 0 ≤ x → x < 4294967296 → Go.bits .or .u64 0 x = x := fun x h0 h1 => by
    rw [bits_join .u64 64 (by decide) (fun n a b => by rw [IntKind.wrap_u64]; omega) 32 0 x (by omega) (by simp) (by omega) h0 (by omega) (by omega)]; omega
  by_cases e0 : n = 0
  · subst e0
    rw [dg_zero]
    simp only [smallbig_nat_low64.l0]
    rw [if_neg (by simp)]; rfl
  · rw [dg_pos e0]
    obtain ⟨d0, hd0⟩ : ∃ d0, d0 = n % 4294967296 := ⟨_, rfl⟩
    rw [← hd0]
    by_cases e1 : n / 4294967296 = 0
    · rw [e1, dg_zero]
      simp only [smallbig_nat_low64.l0]
      have hr : rd [((d0 : Nat) : Int)] 0 = (d0 : Int) := rfl
      rw [if_pos (by simp), if_pos (by omega), if_pos (by omega), w64 (x := 32 * 0) (by omega) (by omega), if_pos (by omega), hr, u64i (by omega) (by omega), w64 (x := 0 + 1) (by omega) (by omega), if_neg (by simp), show (32 : Int) * 0 = 0 from rfl, hsh0 _ (by omega) (by omega), hor0 _ (by omega) (by omega)]
      congr 1; omega
    · rw [dg_pos e1]
      obtain ⟨d1, hd1⟩ : ∃ d1, d1 = n / 4294967296 % 4294967296 := ⟨_, rfl⟩
      rw [← hd1]
      simp only [smallbig_nat_low64.l0]
      have hr : rd (((d0 : Nat) : Int) :: ((d1 : Nat) : Int) :: dg (n / 4294967296 / 4294967296)) 0 = (d0 : Int) := rfl
      have hr1 : rd (((d0 : Nat) : Int) :: ((d1 : Nat) : Int) :: dg (n / 4294967296 / 4294967296)) 1 = (d1 : Int) := rfl
      have hor : Go.bits .or .u64 (d0 : Int) ((d1 : Int) * 4294967296) = (d0 : Int) + (d1 : Int) * 4294967296 :=
        Go.bits_join_low .u64 64 (by decide) (fun n a b => by rw [IntKind.wrap_u64]; omega) 32 d0 (d1 * 4294967296) (by omega) (by omega) (by omega) (by omega) (by omega) (by omega)
      rw [if_pos (by simp; omega), if_pos (by omega), if_pos (by omega), w64 (x := 32 * 0) (by omega) (by omega), if_pos (by omega), hr, u64i (x := (d0 : Int)) (by omega) (by omega), w64 (x := 0 + 1) (by omega) (by omega), show (0 : Int) + 1 = 1 from rfl, if_pos (by simp; omega), if_pos (by omega), if_pos (by omega), w64 (x := 32 * 1) (by omega) (by omega), if_pos (by omega), hr1, u64i (x := (d1 : Int)) (by omega) (by omega), show (32 : Int) * 0 = 0 from rfl, show (32 : Int) * 1 = 32 from rfl, hsh0 _ (by omega) (by omega), hor0 _ (by omega) (by omega), hsh1 _ (by omega) (by omega), hor, w64 (x := 1 + 1) (by omega) (by omega)]
      have hfin : (some ((d0 : Int) + (d1 : Int) * 4294967296)) = some ((n % 18446744073709551616 : Nat) : Int) := by congr 1; omega
      split
      · rw [if_neg (by omega)]; exact hfin
      · exact hfin
end Go.Proofs.YtiopgkdldkkonaaDoor.Num

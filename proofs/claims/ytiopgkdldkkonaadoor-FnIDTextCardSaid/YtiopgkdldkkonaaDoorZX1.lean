/-
  WALK: SetString of a whole number at base 10, of digits alone.
-/
import Derived.Test.YtiopgkdldkkonaaDoorZT
import Derived.Deep.LoopGhost
import Derived.Deep.Cut
import Derived.Deep.CutRange
import Derived.Deep.DeepCutAuto
namespace Go.Proofs.YtiopgkdldkkonaaDoor
open Go.RowKit Go.Proofs.YtiopgkdldkkonaaDoorW.PrintWords Go.Proofs.YtiopgkdldkkonaaDoor.Num Go.Proofs.YtiopgkdldkkonaaDoor.Pn
set_option linter.unusedVariables false
set_option linter.unusedSimpArgs false

/-- A digit. -/
def isDig (x : UInt8) : Prop := 48 ≤ x.toNat ∧ x.toNat ≤ 57
/-- The value of digits. -/
def decVal (l : List UInt8) : Nat := l.foldl (fun a x => a * 10 + (x.toNat - 48)) 0
theorem decVal_snoc (l : List UInt8) (x : UInt8) : decVal (l ++ [x]) = decVal l * 10 + (x.toNat - 48) := by simp [decVal]
theorem decVal_from (l : List UInt8) (h : ∀ x ∈ l, isDig x) : ∀ a, l.foldl (fun a x => a * 10 + (x.toNat - 48)) a < (a + 1) * 10 ^ l.length := by
  induction l with
  | nil => intro a; simp
  | cons x t ih =>
    intro a
    have h2 := h x (by simp)
    unfold isDig at h2
    have h1 := ih (fun y hy => h y (by simp [hy])) (a * 10 + (x.toNat - 48))
    simp only [List.foldl_cons, List.length_cons]
    refine Nat.lt_of_lt_of_le h1 ?_
    rw [Nat.pow_succ, Nat.mul_comm (10 ^ t.length) 10, ← Nat.mul_assoc]
    exact Nat.mul_le_mul_right _ (by omega)
theorem decVal_lt {l : List UInt8} (h : ∀ x ∈ l, isDig x) : decVal l < 10 ^ l.length := by
  have := decVal_from l h 0
  simpa [decVal] using this
theorem decVal_lim {l : List UInt8} (h : ∀ x ∈ l, isDig x) (hl : l.length ≤ 200) : decVal l < lim := by
  have h1 := decVal_lt h
  have h2 : 10 ^ l.length ≤ 10 ^ 200 := Nat.pow_le_pow_right (by omega) hl
  have h3 : 10 ^ 200 ≤ lim := by unfold lim; exact Nat.pow_le_pow_left (by decide) 200
  omega

theorem mulAdd_any (n y r : Nat) (hn : n < lim) (hy : y < 4294967296) (hr : r < 4294967296) (v : Value) (S : Nat → Prop) (w : World) (h : Nt w v n S) :
    Calls Tryd.prog 69 #[v, .int .u32 y, .int .u32 r] w fun e w' => ∃ v, e = .returned v ∧ Nt w' v (n * y + r) (fun k => w.heap.size ≤ k) ∧ Below w.heap.size w w' := by
  obtain ⟨A, c, rfl, hl, hC⟩ := h.form
  have := len_lim hn
  exact (smallbig_nat_mulAdd.calls 3000 A c (dg n) y r (dg (n * y + r)) w hC hl (mulAdd_f n y r hy hr (by omega) (by omega))).mono fun _ _ ⟨v, he, h1, h2⟩ => ⟨v, he, Nt.of h1, h2⟩

theorem Nt.nil (w : World) (S : Nat → Prop) : Nt w (.slice none 0 0) 0 S := by
  unfold Nt; rw [dg_zero]
  exact Kd.V_nil _ _ _ _ _

set_option maxHeartbeats 8000000 in
set_option maxRecDepth 100000 in
theorem setString_some (b : Nat) (l : List UInt8) (hd : ∀ x ∈ l, isDig x) (hl : l.length ≤ 200) (h0 : l ≠ []) (x y : Value) (w : World) (hb : w.heap[b]? = some (.cells #[x, y] 66 (0, 0))) :
    Calls Tryd.prog 50 #[.pointer (some ⟨b, 0, none⟩), .string ⟨l.toArray⟩, .int .i64 10] w fun e w' => e = .returned (.tuple #[.pointer (some ⟨b, 0, none⟩), .bool true]) ∧ ItPost w b (decVal l) w' := by
  have hpos := List.length_pos_iff.2 h0
  have hsz : (⟨l.toArray⟩ : ByteArray).size = l.length := by simp [ByteArray.size]
  obtain ⟨s, hs⟩ : ∃ s : ByteArray, s = ⟨l.toArray⟩ := ⟨_, rfl⟩
  have hgt : ∀ (j : Nat) (hj : j < l.length) (h : j < s.size), (s[j]'h) = l[j] := fun j hj h => by subst hs; rfl
  rw [← hs]
  have hs1 : s.size = l.length := by rw [hs]; exact hsz
  have hemp : s.toList.isEmpty = false := by
    rw [Lib.toList_data, hs]
    cases l with
    | nil => exact absurd rfl h0
    | cons q r => rfl
  obtain ⟨t0, ht0⟩ : ∃ t0, t0 = l[0].toNat := ⟨_, rfl⟩
  have hd0 := hd l[0] (List.getElem_mem _)
  unfold isDig at hd0
  have hs0 : ∀ h : 0 < s.size, ((s[0]'h).toNat : Int) = (t0 : Int) := fun h => by rw [hgt 0 hpos h, ht0]
  have h45 : ((t0 : Int) == 45) = false := by rw [beq_eq_false_iff_ne]; omega
  have h43 : ((t0 : Int) == 43) = false := by rw [beq_eq_false_iff_ne]; omega
  have h45' : ¬ (t0 : Int) = 45 := by omega
  have h43' : ¬ (t0 : Int) = 43 := by omega
  have HB := Lib.hid hb
  have HD := Lib.hid hd
  have HG := Lib.hid hgt
  clear hb hgt hsz hs hd hd0 ht0
  go_enter Tryd.func50, Tryd.ntmps50
  go_wp2_with fail
  go_loopg [9, 11, 13, 14, 15] l.length (fun gk s9 s11 s13 s14 s15 wr => ∃ i : Nat, i ≤ l.length ∧ gk = l.length - i ∧ s9 = .int .i64 i ∧ s11 = .int .i64 i ∧ s13 = .int .u8 (if i = 0 then 46 else 48) ∧ s14 = .bool false ∧ Nt wr s15 (decVal (l.take i)) (fun k => w.heap.size ≤ k) ∧ Below w.heap.size w wr)
  case atStart => exact ⟨0, Nat.zero_le _, rfl, rfl, rfl, rfl, rfl, by simpa [decVal] using Nt.nil w _, Below.refl _ _⟩
  case round =>
    obtain ⟨i, hi, rfl, rfl, rfl, rfl, rfl, hN, hB⟩ := hrel
    obtain ⟨A5, c5, rfl, _, _⟩ := hN.form
    have HN := Lib.hid hN
    have HBR := Lib.hid hB
    clear hN hB
    obtain ⟨pv, hpv⟩ : ∃ pv : Int, pv = if i = 0 then 46 else 48 := ⟨_, rfl⟩
    rw [← hpv]
    have HPV := Lib.hid hpv
    clear hpv
    by_cases hin : i < l.length
    · obtain ⟨t, ht⟩ : ∃ t, t = l[i].toNat := ⟨_, rfl⟩
      have hdi := HD.out l[i] (List.getElem_mem _)
      unfold isDig at hdi
      rw [← ht] at hdi
      obtain ⟨hd1, hd2⟩ := hdi
      have hsi : ∀ h : i < s.size, ((s[i]'h).toNat : Int) = (t : Int) := fun h => by rw [HG.out i hin h, ht]
      have HT := Lib.hid ht
      have hlt : (i : Int) < (l.length : Int) := by omega
      have k95 : ((t : Int) == 95) = false := by rw [beq_eq_false_iff_ne]; omega
      have k48 : (48 : Int) ≤ (t : Int) := by omega
      have k57 : (t : Int) ≤ 57 := by omega
      have kd : IntKind.u8.wrap ((t : Int) - 48) = ((t - 48 : Nat) : Int) := by rw [IntKind.wrap_u8]; omega
      have ks : (t : Int) - 48 = ((t - 48 : Nat) : Int) := by omega
      clear ht
      go_wp2_with fail
      have hlim : decVal (l.take i) < lim := decVal_lim (fun x hx => HD.out x (List.mem_of_mem_take hx)) (by rw [List.length_take]; omega)
      refine (mulAdd_any (decVal (l.take i)) 10 (t - 48) hlim (by omega) (by omega) _ _ wr HN.out).mono ?_
      rintro e w1 ⟨v1, rfl, hN1, hB1⟩
      obtain ⟨A6, c6, rfl, _, _⟩ := hN1.form
      have hsum : decVal (l.take i) * 10 + (t - 48) = decVal (l.take (i + 1)) := by
        rw [List.take_succ_eq_append_getElem hin, decVal_snoc, HT.out]
      rw [hsum] at hN1 ⊢
      have HN1 := Lib.hid (hN1.mono (T := fun k => w.heap.size ≤ k) (fun k hk => Nat.le_trans HBR.out.size hk))
      have HB1 := Lib.hid (below_then HBR.out HBR.out.size hB1)
      clear hN1 hB1 hsum hlim
      go_wp2_with fail
      go_roundg (l.length - (i + 1))
      case measure => omega
      case rel => exact ⟨i + 1, by omega, rfl, by go_num, by go_num, by simp, rfl, HN1.out, HB1.out⟩
    · obtain rfl : i = l.length := by omega
      have htk : l.take l.length = l := List.take_of_length_le (Nat.le_refl _)
      rw [htk] at HN ⊢
      have hpv : pv = 48 := by rw [HPV.out, if_neg (by omega)]
      subst hpv
      have hlz : ¬ ((l.length : Int) = 0) := by omega
      have hb1 := (HBR.out.block b (blk_lt HB.out)).trans HB.out
      obtain ⟨c0, c1, f0, f1⟩ := it_cells hb1
      have HP := Lib.hid (it_put HB.out HN.out HBR.out)
      clear hb1 HPV htk
      go_wp2_with fail
      go_ret2
      exact ⟨rfl, HP.out.1⟩

set_option maxHeartbeats 1000000 in
set_option maxRecDepth 100000 in
theorem setString_none (b : Nat) (w : World) :
    Calls Tryd.prog 50 #[.pointer (some ⟨b, 0, none⟩), .string ⟨#[]⟩, .int .i64 10] w fun e w' => e = .returned (.tuple #[.pointer none, .bool false]) ∧ w' = w := by
  go_enter Tryd.func50, Tryd.ntmps50
  go_wp2
  go_ret2
  exact ⟨rfl, rfl⟩
end Go.Proofs.YtiopgkdldkkonaaDoor

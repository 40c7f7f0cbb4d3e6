/-
  PLAIN LEAN: a number's base-128 form; WALK: spec.IDBytes' closure 'put'.
  WALK: spec.IDBytes.
  PLAIN LEAN: the text of an identifier's bytes; what the printed IsID and figures come to.
  WALK: laws.FnIDBytes.
-/
import Derived.Test.YtiopgkdldkkonaaDoorZO
namespace Go.Proofs.YtiopgkdldkkonaaDoor
open Go.RowKit Go.Proofs.YtiopgkdldkkonaaDoorW.PrintWords Go.Proofs.YtiopgkdldkkonaaDoor.Num Go.Proofs.YtiopgkdldkkonaaDoor.Pn
set_option linter.unusedVariables false
set_option linter.unusedSimpArgs false

/-- All but the last byte. -/
def encHi (m : Nat) : List UInt8 := if h : m = 0 then [] else encHi (m / 128) ++ [UInt8.ofNat (128 + m % 128)]
termination_by m
decreasing_by omega
theorem encHi_zero : encHi 0 = [] := by unfold encHi; simp
theorem encHi_pos {m : Nat} (h : m ≠ 0) : encHi m = encHi (m / 128) ++ [UInt8.ofNat (128 + m % 128)] := by rw [encHi]; simp [h]
/-- A number's base-128 form. -/
def enc (n : Nat) : List UInt8 := encHi (n / 128) ++ [UInt8.ofNat (n % 128)]

theorem nat8 {d : Nat} (h : d < 256) : (UInt8.ofNat d).toNat = d := by simp; omega
theorem enc_go (m : Nat) : ∀ (t : List UInt8) (f : Bool) (out : List UInt8), oidGo (encHi m ++ t) f 0 out = oidGo t f m out := by
  induction m using Nat.strongRecOn with
  | ind m ih =>
    intro t f out
    by_cases h : m = 0
    · subst h; rw [encHi_zero, List.nil_append]
    · rw [encHi_pos h, List.append_assoc, ih _ (by omega), List.singleton_append, oidGo, nat8 (by omega), if_neg (by omega), show m / 128 * 128 + (128 + m % 128) % 128 = m from by omega]
theorem enc_oid (n : Nat) (t : List UInt8) (f : Bool) (out : List UInt8) : oidGo (enc n ++ t) f 0 out = oidGo t false 0 (if f = true then out ++ head1 n else out ++ [46] ++ Lib.decDigits n) := by
  unfold enc
  rw [List.append_assoc, enc_go, List.singleton_append, oidGo, nat8 (by omega), if_pos (by omega), show n / 128 * 128 + n % 128 = n from by omega]
theorem enc_ok_hi (m : Nat) (h : m ≠ 0) : ∀ t, okGo true (encHi m ++ t) = okGo false t := by
  induction m using Nat.strongRecOn with
  | ind m ih =>
    intro t
    rw [encHi_pos h, List.append_assoc, List.singleton_append]
    by_cases h2 : m / 128 = 0
    · rw [h2, encHi_zero, List.nil_append, okGo, nat8 (by omega), if_neg (by omega), decide_eq_false (by omega)]
    · rw [ih _ (by omega) h2, okGo, nat8 (by omega), if_neg (by simp), decide_eq_false (by omega)]
theorem enc_ok (n : Nat) (t : List UInt8) : okGo true (enc n ++ t) = okGo true t := by
  unfold enc
  rw [List.append_assoc, List.singleton_append]
  by_cases h : n / 128 = 0
  · rw [h, encHi_zero, List.nil_append, okGo, nat8 (by omega), if_neg (by omega), decide_eq_true (by omega)]
  · rw [enc_ok_hi _ h, okGo, nat8 (by omega), if_neg (by simp), decide_eq_true (by omega)]
theorem encHi_len {m k : Nat} (h : m < 128 ^ k) : (encHi m).length ≤ k := by
  induction k generalizing m with
  | zero => have : m = 0 := by simpa using h
            subst this; rw [encHi_zero]; simp
  | succ k ih =>
    by_cases e : m = 0
    · subst e; rw [encHi_zero]; simp
    · rw [encHi_pos e, List.length_append]
      have := ih (m := m / 128) (by rw [Nat.pow_succ] at h; omega)
      simp; omega
set_option maxRecDepth 100000 in
theorem or128 : ∀ n : Nat, n < 128 → Go.bits .or .u8 (n : Int) 128 = ((128 + n : Nat) : Int) := by decide

theorem R_one (w : World) (y : Nat) (hy : y < 256) : Kd.R (Kd.int .u8) 5 (w.alloc (.cells #[.int .u8 (y : Int)] 5)) w.heap.size (fun _ => True) (.slice (some ⟨w.heap.size, 0, none⟩) 1 1) (ints [UInt8.ofNat y]) := by
  refine Kd.R_of_own (enc := Value.int .u8) ⟨by simp [ints, encs], .inr ⟨w.heap.size, 1, #[.int .u8 (y : Int)], rfl, Nat.le_refl _, heap_alloc_new w _, by simp [ints], by unfold maxLen; omega, by simp, ?_⟩⟩ (fun _ _ => trivial)
  simp [ints, encs]; omega
end Go.Proofs.YtiopgkdldkkonaaDoor
namespace Go.Proofs.YtiopgkdldkkonaaDoor
open Go.RowKit Go.Proofs.YtiopgkdldkkonaaDoorW.PrintWords Go.Proofs.YtiopgkdldkkonaaDoor.Num Go.Proofs.YtiopgkdldkkonaaDoor.Pn
set_option linter.unusedVariables false
set_option linter.unusedSimpArgs false

def encAll (l : List Nat) : List UInt8 := (l.map enc).flatten
def idEnc (a b : Nat) (l : List Nat) : List UInt8 := enc (40 * a + b) ++ encAll l
end Go.Proofs.YtiopgkdldkkonaaDoor
namespace Go.Proofs.YtiopgkdldkkonaaDoor
open Go.RowKit Go.Proofs.YtiopgkdldkkonaaDoorW.PrintWords Go.Proofs.YtiopgkdldkkonaaDoorW.PrintMore Go.Proofs.YtiopgkdldkkonaaDoor.Num Go.Proofs.YtiopgkdldkkonaaDoor.Pn
set_option linter.unusedVariables false
set_option linter.unusedSimpArgs false

/-- The text of the numbers behind the first. -/
def dots : List Nat → List UInt8
  | [] => []
  | x :: t => [46] ++ Lib.decDigits x ++ dots t
/-- The text of numbers. -/
def joinDots : List Nat → List UInt8
  | [] => []
  | x :: t => Lib.decDigits x ++ dots t

theorem encAll_cons (x : Nat) (t : List Nat) : encAll (x :: t) = enc x ++ encAll t := by simp [encAll]
theorem encAll_oid (l : List Nat) : ∀ out, oidGo (encAll l) false 0 out = out ++ dots l := by
  induction l with
  | nil => intro out; simp [encAll, oidGo, dots]
  | cons x t ih =>
    intro out
    rw [encAll_cons, enc_oid, if_neg (by simp), ih, dots]
    simp
theorem encAll_ok (l : List Nat) : okGo true (encAll l) = true := by
  induction l with
  | nil => rfl
  | cons x t ih => rw [encAll_cons, enc_ok, ih]
theorem enc_ne (n : Nat) : enc n ≠ [] := by
  unfold enc; simp
theorem idEnc_ok (a b : Nat) (l : List Nat) : okBytes (idEnc a b l) = true := by
  unfold okBytes
  rw [if_neg (by unfold idEnc; intro h; exact enc_ne _ (List.append_eq_nil_iff.1 h).1)]
  unfold idEnc
  rw [enc_ok, encAll_ok]
theorem dec2 : Lib.decDigits 2 = [50] := by unfold Lib.decDigits; simp
theorem head1_eq {a b : Nat} (ha : a ≤ 2) (hb : a < 2 → b ≤ 39) : head1 (40 * a + b) = Lib.decDigits a ++ [46] ++ Lib.decDigits b := by
  unfold head1
  by_cases h : a < 2
  · have := hb h
    rw [if_pos (by omega), show (40 * a + b) / 40 = a from by omega, show (40 * a + b) % 40 = b from by omega]
  · obtain rfl : a = 2 := by omega
    rw [if_neg (by omega), show 40 * 2 + b - 80 = b from by omega, dec2]
    rfl
theorem idEnc_text {a b : Nat} (l : List Nat) (ha : a ≤ 2) (hb : a < 2 → b ≤ 39) : oidText (idEnc a b l) = joinDots (a :: b :: l) := by
  unfold oidText idEnc
  rw [enc_oid, if_pos rfl, encAll_oid, head1_eq ha hb]
  simp [joinDots, dots]

/-! ### figures -/
/-! ### IsID -/
end Go.Proofs.YtiopgkdldkkonaaDoor
namespace Go.Proofs.YtiopgkdldkkonaaDoor
open Go.RowKit Go.Proofs.YtiopgkdldkkonaaDoorW.PrintWords Go.Proofs.YtiopgkdldkkonaaDoor.Num Go.Proofs.YtiopgkdldkkonaaDoor.Pn
set_option linter.unusedVariables false
set_option linter.unusedSimpArgs false

abbrev Tab (w : World) : Prop := Lib.TabIs Tryd.prog w "internal/strconv.uint64pow10" .u64 Lib.pow10Tab
theorem isIDBytes_any (l : List UInt8) (hl : l.length ≤ 1000) (A : Option Addr) (c : Nat) (hc : l.length ≤ c) (w : World) (hC : (Kd.int .u8).C w A l.length (ints l)) :
    Calls Tryd.prog 6 #[.slice A l.length c] w fun e w' => e = .returned (.bool (okBytes l)) ∧ Drawn0 w w' := by
  obtain ⟨k, hk⟩ := (isID_f l (by omega)).rounds
  have := spec_IsIDBytes.calls k A c (ints l) (okBytes l) w (by rw [ints_len]; exact hC) (by rw [ints_len]; exact hc) hk
  rwa [ints_len] at this
theorem str_cat (a b : List UInt8) : (⟨a.toArray⟩ : ByteArray) ++ ⟨b.toArray⟩ = ⟨(a ++ b).toArray⟩ := by
  apply ByteArray.ext
  rw [ByteArray.data_append]
  simp

end Go.Proofs.YtiopgkdldkkonaaDoor

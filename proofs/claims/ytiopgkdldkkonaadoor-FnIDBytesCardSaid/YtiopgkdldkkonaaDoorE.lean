/-
  PLAIN LEAN: a number's base-128 form; WALK: spec.IDBytes' closure 'put'.
-/
import Derived.Test.YtiopgkdldkkonaaDoorO3
namespace Go.Proofs.YtiopgkdldkkonaaDoor
open Go.RowKit Go.Proofs.YtiopgkdldkkonaaDoorW.PrintWords Go.Proofs.YtiopgkdldkkonaaDoor.Num Go.Proofs.YtiopgkdldkkonaaDoor.Pn
set_option linter.unusedVariables false
set_option linter.unusedSimpArgs false

/-- All but the last byte. -/
def encHi (m : Nat) : List UInt8 := if h : m = 0 then [] else encHi (m / 128) ++ [UInt8.ofNat (128 + m % 128)]
termination_by m
decreasing_by omega
theorem encHi_zero : encHi 0 = [] := by unfold encHi; simp
theorem encHi_pos {m : Nat} (h : m ≠ 0) : encHi m = encHi (m / 128) ++ [UInt8.ofNat (128 + m % 128)] := by rw [encHi]; simp [h]
/-- A number's base-128 form. -/
def enc (n : Nat) : List UInt8 := encHi (n / 128) ++ [UInt8.ofNat (n % 128)]

theorem nat8 {d : Nat} (h : d < 256) : (UInt8.ofNat d).toNat = d := by simp; omega
theorem enc_go (m : Nat) : ∀ (t : List UInt8) (f : Bool) (out : List UInt8), oidGo (encHi m ++ t) f 0 out = oidGo t f m out := by
  induction m using Nat.strongRecOn with
  | ind m ih =>
    intro t f out
    by_cases h : m = 0
    · subst h; rw [encHi_zero, List.nil_append]
    · rw [encHi_pos h, List.append_assoc, ih _ (by omega), List.singleton_append, oidGo, nat8 (by omega), if_neg (by omega), show m / 128 * 128 + (128 + m % 128) % 128 = m from by omega]
theorem enc_oid (n : Nat) (t : List UInt8) (f : Bool) (out : List UInt8) : oidGo (enc n ++ t) f 0 out = oidGo t false 0 (if f = true then out ++ head1 n else out ++ [46] ++ Lib.decDigits n) := by
  unfold enc
  rw [List.append_assoc, enc_go, List.singleton_append, oidGo, nat8 (by omega), if_pos (by omega), show n / 128 * 128 + n % 128 = n from by omega]
theorem enc_ok_hi (m : Nat) (h : m ≠ 0) : ∀ t, okGo true (encHi m ++ t) = okGo false t := by
  induction m using Nat.strongRecOn with
  | ind m ih =>
    intro t
    rw [encHi_pos h, List.append_assoc, List.singleton_append]
    by_cases h2 : m / 128 = 0
    · rw [h2, encHi_zero, List.nil_append, okGo, nat8 (by omega), if_neg (by omega), decide_eq_false (by omega)]
    · rw [ih _ (by omega) h2, okGo, nat8 (by omega), if_neg (by simp), decide_eq_false (by omega)]
theorem enc_ok (n : Nat) (t : List UInt8) : okGo true (enc n ++ t) = okGo true t := by
  unfold enc
  rw [List.append_assoc, List.singleton_append]
  by_cases h : n / 128 = 0
  · rw [h, encHi_zero, List.nil_append, okGo, nat8 (by omega), if_neg (by omega), decide_eq_true (by omega)]
  · rw [enc_ok_hi _ h, okGo, nat8 (by omega), if_neg (by simp), decide_eq_true (by omega)]
theorem encHi_len {m k : Nat} (h : m < 128 ^ k) : (encHi m).length ≤ k := by
  induction k generalizing m with
  | zero => have : m = 0 := by simpa using h
            subst this; rw [encHi_zero]; simp
  | succ k ih =>
    by_cases e : m = 0
    · subst e; rw [encHi_zero]; simp
    · rw [encHi_pos e, List.length_append]
      have := ih (m := m / 128) (by rw [Nat.pow_succ] at h; omega)
      simp; omega
theorem enc_len {n : Nat} (h : n < 34359738368) : (enc n).length ≤ 5 := by
  unfold enc
  have := encHi_len (m := n / 128) (k := 4) (by omega)
  simp; omega

theorem and127i (n : Nat) (hn : n < 34359738368) : Go.bits .and .i64 (n : Int) 127 = ((n % 128 : Nat) : Int) := by
  rw [show (127 : Int) = 2 ^ 7 - 1 from by decide, bits_mask .i64 40 (by decide) (fun n a b => by rw [IntKind.wrap_i64]; omega) 7 (by decide) (n : Int) (by omega) (by omega)]
  omega
set_option maxRecDepth 100000 in
theorem or128 : ∀ n : Nat, n < 128 → Go.bits .or .u8 (n : Int) 128 = ((128 + n : Nat) : Int) := by decide

/-- The slice variable in block g holds the bytes l, in a row of the call's own. -/
def Sv (w : World) (base g : Nat) (l : List UInt8) : Prop := ∃ A c, w.heap[g]? = some (.cells #[.slice A l.length c] 23 (0, 0)) ∧ Kd.R (Kd.int .u8) 5 w base (fun _ => True) (.slice A l.length c) (ints l)

theorem R_one (w : World) (y : Nat) (hy : y < 256) : Kd.R (Kd.int .u8) 5 (w.alloc (.cells #[.int .u8 (y : Int)] 5)) w.heap.size (fun _ => True) (.slice (some ⟨w.heap.size, 0, none⟩) 1 1) (ints [UInt8.ofNat y]) := by
  refine Kd.R_of_own (enc := Value.int .u8) ⟨by simp [ints, encs], .inr ⟨w.heap.size, 1, #[.int .u8 (y : Int)], rfl, Nat.le_refl _, heap_alloc_new w _, by simp [ints], by unfold maxLen; omega, by simp, ?_⟩⟩ (fun _ _ => trivial)
  simp [ints, encs]; omega
theorem R_base {w : World} {b b' : Nat} {v : Value} {l : List Int} (h : Kd.R (Kd.int .u8) 5 w b (fun _ => True) v l) (hb : b' ≤ b) : Kd.R (Kd.int .u8) 5 w b' (fun _ => True) v l := Kd.R_lower h hb
theorem R_app {w : World} {b : Nat} {v : Value} {x : UInt8} {l : List UInt8} (h : (Kd.scalar (Value.int .u8) (fun _ => rfl)).R 5 w b (fun _ => True) v (ints [x] ++ ints l)) : ∃ A c, v = .slice A (x :: l).length c ∧ Kd.R (Kd.int .u8) 5 w b (fun _ => True) (.slice A (x :: l).length c) (ints (x :: l)) := by
  have h' : Kd.R (Kd.int .u8) 5 w b (fun _ => True) v (ints (x :: l)) := h
  obtain ⟨A, c, rfl⟩ := Kd.R_slice h'
  rw [ints_len] at h'
  exact ⟨A, c, by rw [ints_len], h'⟩

set_option maxHeartbeats 4000000 in
set_option maxRecDepth 100000 in
theorem put_any (base g N : Nat) (out : List UInt8) (hN : N < 34359738368) (w : World) (hbase : base ≤ w.heap.size) (hg : base ≤ g) (h : Sv w base g out) (hl : out.length ≤ 1000000) :
    Calls Tryd.prog 17 #[.int .i64 N, .pointer (some ⟨g, 0, none⟩)] w fun e w' => e = .returned (.tuple #[]) ∧ Sv w' base g (out ++ enc N) ∧ Below base w w' := by
  obtain ⟨A, c, hb, hR⟩ := h
  have HB := Lib.hid hb
  have HR := Lib.hid hR
  clear hb hR
  go_enter Tryd.func17, Tryd.ntmps17
  go_wp2
  go_loopg [0, 3, 4] (N + 1) (fun gk s0 s3 s4 wr => ∃ (n : Nat) (bl : List UInt8) (f : Bool) (A1 : Option Addr) (c1 : Nat), s0 = .int .i64 n ∧ s4 = .bool f ∧ s3 = .slice A1 bl.length c1 ∧ Kd.R (Kd.int .u8) 5 wr w.heap.size (fun _ => True) (.slice A1 bl.length c1) (ints bl) ∧ Below w.heap.size w wr ∧ n ≤ N ∧ gk = (if f then n + 1 else n) ∧ (if f = true then bl = [] ∧ n = N else enc N = encHi n ++ bl))
  case atStart => exact ⟨N, [], true, none, 0, rfl, rfl, rfl, Kd.R_nil _ _ _ _ _, Below.refl _ _, Nat.le_refl _, rfl, by simp⟩
  case round =>
    obtain ⟨n, bl, f, A1, c1, rfl, rfl, rfl, hR1, hB1, hnN, hgk, hinv⟩ := hrel
    have hbl : bl.length ≤ 5 := by
      have hh := enc_len hN
      cases f with
      | true => rw [if_pos rfl] at hinv; rw [hinv.1]; simp
      | false => rw [if_neg (by simp)] at hinv; rw [hinv] at hh; simp at hh; omega
    have HR1 := Lib.hid hR1
    have HB1 := Lib.hid hB1
    clear hR1 hB1
    have h127 := and127i n (by omega)
    obtain ⟨m, hm⟩ : ∃ m, m = n % 128 := ⟨_, rfl⟩
    rw [← hm] at h127
    have hor := or128 m (by omega)
    have hm128 : m < 128 := by omega
    have HM := Lib.hid hm
    clear hm
    have hins : ∀ y : Nat, (ints [UInt8.ofNat y]).length = 1 := fun y => by simp [ints]
    have HINS := Lib.hid hins
    clear hins
    have hC1 : ∀ y : Nat, (Kd.scalar (Value.int .u8) (fun _ => rfl)).C (wr.alloc (.cells #[.int .u8 (y : Int)] 5)) A1 bl.length (ints bl) := fun y => by
      obtain ⟨A2, c2, hv, hc, hC⟩ := Kd.R_reads (Kd.R_alloc (o := .cells #[.int .u8 (y : Int)] 5) HR1.out)
      rw [ints_len] at hv hC
      injection hv with e1 e2 e3
      subst e1; exact hC
    have HC1 := Lib.hid hC1
    clear hC1
    cases f with
    | true =>
      simp only [if_true] at hgk hinv
      have HI := Lib.hid hinv
      have HG := Lib.hid hgk
      clear hinv hgk
      go_wp2_with (at_builtin; refine Kd.R_append_row (Value.int .u8) 0 (h1 := fun _ => rfl) (w0 := wr) wr.heap.size rfl (.tmp 19) (.tmp 20) 23 5 (.int .u8 0) 1 rfl Tryd.underlying23 info5 rfl (by decide) (.slice (some ⟨wr.heap.size, 0, none⟩) 1 1) (ints [UInt8.ofNat m]) (ints bl) A1 bl.length c1 (fun _ => True) rfl rfl (fun _ _ => trivial) (R_one wr m (by omega)) (HC1.out m) ((Below.refl _ _).alloc (Nat.le_refl _) _) (by simp) (by rw [HINS.out]; omega) ?_)
      intro v2 w2 h2 hB2 hg2 hat2
      obtain ⟨A2, c2, rfl, hR2⟩ := R_app h2
      have HR2 := Lib.hid hR2
      have HB2 := Lib.hid hB2
      clear h2 hB2 hg2 hat2 hR2
      go_wp2
      go_roundg (n / 128)
      case measure => rw [HG.out]; omega
      case rel =>
        refine ⟨n / 128, UInt8.ofNat m :: bl, false, A2, c2, by first | rfl | go_num | simp, rfl, rfl, R_base HR2.out HB1.out.size, HB1.out.trans (HB2.out.mono HB1.out.size), by omega, by simp, ?_⟩
        rw [if_neg (by simp), HI.out.1, HM.out, HI.out.2]; rfl
    | false =>
      simp only [Bool.false_eq_true, if_false] at hgk hinv
      have HI := Lib.hid hinv
      have HG := Lib.hid hgk
      clear hinv hgk
      by_cases hn0 : n = 0
      · have hbl' : enc N = bl := by rw [HI.out, hn0, encHi_zero, List.nil_append]
        have HBL := Lib.hid hbl'
        have hbg := (HB1.out.block g (blk_lt HB.out)).trans HB.out
        have cg : wr.cell? ⟨g, 0, none⟩ = some (.slice A out.length c) := by rw [Lib.cell_of_heap hbg]; rfl
        have HRo := Lib.hid (Kd.R_below HR.out HB1.out)
        have HBG := Lib.hid hbg
        obtain ⟨A2, c2, hv, hc2, hC2⟩ := Kd.R_reads HR1.out
        rw [ints_len] at hv hC2
        injection hv with e1 e2 e3
        subst e1; subst e3
        have HC2 := Lib.hid hC2
        subst hn0
        clear hbl' hbg hc2 hC2 h127 hor HC1
        go_wp2_with (at_builtin; refine Kd.R_append_row (Value.int .u8) 0 (h1 := fun _ => rfl) (w0 := wr) base rfl (.tmp 24) (.tmp 25) 23 5 (.int .u8 0) 1 rfl Tryd.underlying23 info5 rfl (by decide) (.slice A out.length c) (ints out) (ints bl) A1 bl.length c1 (fun _ => True) rfl rfl (fun _ _ => trivial) HRo.out HC2.out (Below.refl _ _) (Nat.le_trans hbase HB1.out.size) (by rw [ints_len]; omega) ?_)
        intro v2 w2 h2 hB2 hg2 hat2
        have h2' : Kd.R (Kd.int .u8) 5 w2 base (fun _ => True) v2 (ints (out ++ bl)) := by
          have e : ints (out ++ bl) = ints out ++ ints bl := by simp [ints]
          rw [e]; exact h2
        obtain ⟨A2, c2, rfl⟩ := Kd.R_slice h2'
        rw [ints_len] at h2'
        have hbg2 : w2.heap[g]? = some (.cells #[.slice A out.length c] 23 (0, 0)) := (hg2.block g (blk_lt HBG.out) (Kd.R_ne HRo.out HBG.out (by decide))).trans HBG.out
        have k2 : w2.cell? ⟨g, 0, none⟩ = some (.slice A out.length c) := by rw [Lib.cell_of_heap hbg2]; rfl
        have f2 : w2.frozen? ⟨g, 0, none⟩ = false := Lib.frozen_of_heap hbg2 0
        have HP : Hid (Sv (w2.setCell ⟨g, 0, none⟩ (.slice A2 (ints (out ++ bl)).length c2)) base g (out ++ bl) ∧ Below base w (w2.setCell ⟨g, 0, none⟩ (.slice A2 (ints (out ++ bl)).length c2))) := Lib.hid (by
          rw [ints_len]
          refine ⟨⟨A2, c2, (blk_set hbg2 0 _).trans rfl, Kd.R_set h2' hbg2 (by intro q hq; simp [Kd.int, Kd.scalar] at hq; subst hq; decide) 0 _⟩, ?_⟩
          exact ((HB1.out.mono hbase).trans hB2).setCell (p := ⟨g, 0, none⟩) hg _)
        clear h2 h2' hB2 hg2 hat2 hbg2
        go_wp2
        go_end0
        rw [HBL.out]
        exact ⟨rfl, HP.out⟩
      · have hn1 : 0 < (n : Int) := by omega
        obtain ⟨z, hz⟩ : ∃ z, z = UInt8.ofNat (128 + m) := ⟨_, rfl⟩
        have hR0 : Kd.R (Kd.int .u8) 5 (wr.alloc (.cells #[.int .u8 ((128 + m : Nat) : Int)] 5)) wr.heap.size (fun _ => True) (.slice (some ⟨wr.heap.size, 0, none⟩) 1 1) (ints [z]) := by rw [hz]; exact R_one wr (128 + m) (by omega)
        have HR0 := Lib.hid hR0
        have hzl : (ints [z]).length = 1 := by simp [ints]
        have HZL := Lib.hid hzl
        have HZ := Lib.hid hz
        clear hR0 hz hzl
        go_wp2_with (at_builtin; refine Kd.R_append_row (Value.int .u8) 0 (h1 := fun _ => rfl) (w0 := wr) wr.heap.size rfl (.tmp 19) (.tmp 20) 23 5 (.int .u8 0) 1 rfl Tryd.underlying23 info5 rfl (by decide) (.slice (some ⟨wr.heap.size, 0, none⟩) 1 1) (ints [z]) (ints bl) A1 bl.length c1 (fun _ => True) rfl rfl (fun _ _ => trivial) HR0.out (HC1.out (128 + m)) ((Below.refl _ _).alloc (Nat.le_refl _) _) (by simp) (by rw [HZL.out]; omega) ?_)
        intro v2 w2 h2 hB2 hg2 hat2
        obtain ⟨A2, c2, rfl, hR2⟩ := R_app h2
        have HR2 := Lib.hid hR2
        have HB2 := Lib.hid hB2
        clear h2 hB2 hg2 hat2 hR2
        go_wp2
        go_roundg (n / 128)
        case measure => rw [HG.out]; omega
        case rel =>
          refine ⟨n / 128, z :: bl, false, A2, c2, by first | rfl | go_num | simp, rfl, rfl, R_base HR2.out HB1.out.size, HB1.out.trans (HB2.out.mono HB1.out.size), by omega, by simp, ?_⟩
          rw [if_neg (by simp), HI.out, encHi_pos hn0, HZ.out, HM.out, List.append_assoc]; rfl
end Go.Proofs.YtiopgkdldkkonaaDoor

/-
  WALK: appendBase128BigInt: a number's base-128 form behind the bytes so far.
-/
import Derived.Test.YtiopgkdldkkonaaDoorZX
import Derived.Test.YtiopgkdldkkonaaDoorZE
namespace Go.Proofs.YtiopgkdldkkonaaDoor
open Go.RowKit Go.Proofs.YtiopgkdldkkonaaDoorW.PrintWords Go.Proofs.YtiopgkdldkkonaaDoor.Num Go.Proofs.YtiopgkdldkkonaaDoor.Pn
set_option linter.unusedVariables false
set_option linter.unusedSimpArgs false

theorem pow_128 (i : Nat) : 128 ^ i = 2 ^ (7 * i) := pow_pow2 2 7 i
theorem hi_zero (n : Nat) : n / 128 ^ ((bl n + 6) / 7) = 0 := by
  refine Nat.div_eq_of_lt (Nat.lt_of_lt_of_le (lt_bl n) ?_)
  rw [pow_128]
  exact Nat.pow_le_pow_right (by omega) (by omega)
theorem hi_ne {n i : Nat} (h : i < (bl n + 6) / 7) : n / 128 ^ i ≠ 0 := by
  intro h0
  rw [Nat.div_eq_zero_iff, pow_128] at h0
  rcases h0 with h0 | h0
  · exact absurd h0 (Nat.ne_of_gt (Nat.pow_pos (by omega)))
  · have := bl_le h0; omega
theorem hi_step (n i : Nat) : n / 128 ^ (i + 1) = n / 128 ^ i / 128 := by rw [Nat.pow_succ, Nat.div_div_eq_div_mul]
theorem shift_7 (n i : Nat) : n / 2 ^ (i * 7) = n / 128 ^ i := by rw [pow_128, Nat.mul_comm]
theorem div_lim {n : Nat} (hn : n < lim) (d : Nat) : n / d < lim := Nat.lt_of_le_of_lt (Nat.div_le_self _ _) hn

theorem C_byte (w : World) (y : Nat) (hy : y < 256) : (Kd.int .u8).C (w.alloc (.cells #[.int .u8 (y : Int)] 5)) (some ⟨w.heap.size, 0, none⟩) 1 (ints [UInt8.ofNat y]) := by
  obtain ⟨A, c, hv, hc, hC⟩ := Kd.R_reads (R_one w y hy)
  injection hv with e1 e2 e3
  subst e1
  exact hC
theorem ints_app (a b : List UInt8) : ints (a ++ b) = ints a ++ ints b := by simp [ints]

/-- What an append to the row v leaves: the bytes l, in v's row or a new one. -/
def ApPost (w : World) (base : Nat) (v : Value) (l : List UInt8) (w' : World) (v' : Value) : Prop :=
  (∃ A c, v' = .slice A l.length c) ∧ Kd.R (Kd.int .u8) 5 w' base (fun _ => True) v' (ints l) ∧ Nx w v v' ∧ Ch w w' (fun k => some k = v.ownBlock)
theorem ApPost.step {w w1 w2 w3 : World} {base : Nat} {v v1 v2 : Value} {l l2 : List UInt8} (h : ApPost w base v l w1 v1) (hb : Below w1.heap.size w1 w2) (hR : Kd.R (Kd.int .u8) 5 w3 base (fun _ => True) v2 (ints l2)) (hg : w2.grownBy w3 v1.ownBlock) (hat : v2.ownBlock = v1.ownBlock ∨ ∃ b, v2.ownBlock = some b ∧ w2.heap.size ≤ b) : ApPost w base v l2 w3 v2 := by
  obtain ⟨A, c, rfl⟩ := Kd.R_slice hR
  rw [ints_len] at hR
  have hc1 : Ch w w2 (fun k => some k = v.ownBlock) := h.2.2.2.same (Ch.of_below' hb _)
  refine ⟨⟨A, c, by rw [ints_len]⟩, by rw [ints_len]; exact hR, ?_, ?_⟩
  · rw [ints_len] at hat
    rw [ints_len]
    rcases hat with e | ⟨b, e, hb2⟩
    · rcases h.2.2.1 with e1 | ⟨r, e1, hr⟩
      · exact .inl (e.trans e1)
      · exact .inr ⟨r, e.trans e1, hr⟩
    · exact .inr ⟨b, e, Nat.le_trans hc1.size hb2⟩
  · refine hc1.trans (Ch.of_grown (S := fun k => some k = v1.ownBlock) hg (fun k hk => hk.symm)) (fun i hi e => ?_)
    rcases h.2.2.1 with e1 | ⟨r, e1, hr⟩
    · exact e.trans e1
    · rw [e1] at e; injection e with e; omega
theorem It.ap {w w1 : World} {base bx n : Nat} {v v1 : Value} {l : List UInt8} {S : Nat → Prop} (h : It w bx n S) (hv : ∀ k, v.ownBlock = some k → ¬ S k ∧ k ≠ bx) (hp : ApPost w base v l w1 v1) : It w1 bx n S :=
  h.ch hp.2.2.2 (fun e => (hv bx e.symm).2 rfl) (fun k hk _ e => (hv k e.symm).1 hk)

theorem ApPost.start {w w1 : World} {base : Nat} {A : Option Addr} {c : Nat} {l : List UInt8} (h : Kd.R (Kd.int .u8) 5 w base (fun _ => True) (.slice A l.length c) (ints l)) (hb : Below w.heap.size w w1) : ApPost w base (.slice A l.length c) l w1 (.slice A l.length c) :=
  ⟨⟨A, c, rfl⟩, Kd.R_below h hb, .inl rfl, Ch.of_below' hb _⟩

set_option maxHeartbeats 8000000 in
set_option maxRecDepth 100000 in
theorem append128_any (base bx n : Nat) (hn : n < lim) (S : Nat → Prop) (A : Option Addr) (c : Nat) (l : List UInt8) (hl : l.length ≤ 100000) (w : World) (hbase : base ≤ w.heap.size) (hx : It w bx n S)
    (hR : Kd.R (Kd.int .u8) 5 w base (fun _ => True) (.slice A l.length c) (ints l)) (hv : ∀ k, (Value.slice A l.length c).ownBlock = some k → ¬ S k ∧ k ≠ bx) :
    Calls Tryd.prog 54 #[.slice A l.length c, .pointer (some ⟨bx, 0, none⟩)] w fun e w' => ∃ v', e = .returned v' ∧ ApPost w base (.slice A l.length c) (l ++ enc n) w' v' := by
  have hlt := hx.lt
  obtain ⟨v0, hv0⟩ : ∃ v0, v0 = Value.slice A l.length c := ⟨_, rfl⟩
  obtain ⟨m0, hm0⟩ : ∃ m0, m0 = l.length := ⟨_, rfl⟩
  have hAp := ApPost.start hR (Below.refl _ _)
  rw [← hv0] at hv hAp ⊢
  have hva : v0 = .slice A m0 c := by rw [hv0, hm0]
  rw [← hm0] at hl
  have HX := Lib.hid hx
  have HV := Lib.hid hv
  have HAP := Lib.hid hAp
  have HVA := Lib.hid hva
  have HM0 := Lib.hid hm0
  have hres : ∀ (w' : World) (v' : Value) (l' : List UInt8), l' = l ++ enc n → ApPost w base v0 l' w' v' → ∃ v'', Ending.returned v' = .returned v'' ∧ ApPost w base v0 (l ++ enc n) w' v'' := fun w' v' l' e h => ⟨v', rfl, by rw [← e]; exact h⟩
  have HRES := Lib.hid hres
  have hga : #[v0, Value.pointer (some ⟨bx, 0, none⟩)] = #[.slice A m0 c, Value.pointer (some ⟨bx, 0, none⟩)] := by rw [hva]
  rw [hga]
  clear hx hR hv hAp hva hv0 hm0 hres hga
  by_cases h0 : n = 0
  · have hc : cmpN n 0 = 0 := by rw [h0]; rfl
    have HC := Lib.hid hc
    have hap1 := HAP.out
    clear hc
    have H0 := Lib.hid h0
    clear h0 hap1
    go_enter Tryd.func54, Tryd.ntmps54
    go_wp2_with fail
    refine (newInt_any 0 (by omega) w).mono ?_
    rintro e w1 ⟨rfl, hI, hB⟩
    have H1 := Lib.hid (And.intro (HX.out.step hB) (And.intro hI hB))
    clear hI hB
    go_wp2_with fail
    refine (cmp_int bx w.heap.size n 0 (by omega) hn _ _ w1 H1.out.1 H1.out.2.1).mono ?_
    rintro e w2 ⟨rfl, hD⟩
    rw [HC.out]
    have H2 := Lib.hid (H1.out.2.2.trans (hD.below.mono H1.out.2.2.size))
    clear hD
    have hR2 := Kd.R_alloc (o := .cells #[.int .u8 (0 : Nat)] 5) (Kd.R_below HAP.out.2.1 H2.out)
    rw [HVA.out] at hR2
    have HR2 := Lib.hid hR2
    have hlen : (ints l).length = m0 := by rw [ints_len, HM0.out]
    have HLEN := Lib.hid hlen
    clear hR2 hlen
    go_wp2_with (at_builtin; refine Kd.R_append_row (Value.int .u8) 0 (h1 := fun _ => rfl) (w0 := w2) base rfl (.tmp 11) (.tmp 12) 23 5 (.int .u8 0) 1 rfl Tryd.underlying23 info5 rfl (by decide) (.slice A m0 c) (ints l) (ints [UInt8.ofNat 0]) (some ⟨w2.heap.size, 0, none⟩) 1 1 (fun _ => True) rfl rfl (fun _ _ => trivial) HR2.out (C_byte w2 0 (by omega)) ((Below.refl _ _).alloc (Nat.le_trans hbase H2.out.size) _) (Nat.le_trans hbase (Nat.le_trans H2.out.size (by simp))) (by rw [HLEN.out]; omega) ?_)
    intro v2 w3 h2 hB2 hg2 hat2
    rw [← ints_app] at h2
    have HP : Hid (ApPost w base v0 (l ++ [UInt8.ofNat 0]) w3 v2) := Lib.hid (HAP.out.step (H2.out.alloc H2.out.size _) h2 (by rw [HVA.out]; exact hg2) (by rw [HVA.out]; simpa using hat2))
    clear h2 hB2 hg2 hat2
    go_wp2
    go_ret
    refine HRES.out _ _ _ ?_ HP.out
    rw [H0.out]
    unfold enc
    rw [show 0 / 128 = 0 from rfl, encHi_zero]; rfl
  · obtain ⟨L, hL⟩ : ∃ L, L = (bl n + 6) / 7 := ⟨_, rfl⟩
    have hLb : L ≤ 1000 := by have := bl_lim hn; omega
    have hL1 : 1 ≤ L := by
      rw [hL]
      by_cases hb : bl n = 0
      · have := lt_bl n; rw [hb] at this; exact absurd (by simpa using this) h0
      · omega
    have H0 := Lib.hid h0
    have HL := Lib.hid hL
    have hc : cmpN n 0 = 1 := by unfold cmpN; rw [if_neg (by omega), if_neg h0]
    have HC := Lib.hid hc
    clear hL hc h0
    go_enter Tryd.func54, Tryd.ntmps54
    go_wp2_with fail
    refine (newInt_any 0 (by omega) w).mono ?_
    rintro e w1 ⟨rfl, hI, hB⟩
    have H1 := Lib.hid (And.intro (HX.out.step hB) (And.intro hI hB))
    clear hI hB
    go_wp2_with fail
    refine (cmp_int bx w.heap.size n 0 (by omega) hn _ _ w1 H1.out.1 H1.out.2.1).mono ?_
    rintro e w2 ⟨rfl, hD⟩
    rw [HC.out]
    have H2 := Lib.hid (And.intro (H1.out.1.step hD.below) (H1.out.2.2.trans (hD.below.mono H1.out.2.2.size)))
    clear hD
    go_wp2_with fail
    refine (len128_some bx n H0.out hn _ w2 H2.out.1).mono ?_
    rintro e w3 ⟨rfl, hB⟩
    rw [← HL.out]
    have HB3 := Lib.hid (H2.out.2.trans (hB.mono H2.out.2.size))
    clear hB
    go_wp2_with fail
    go_loopg [0, 5] L (fun gk s0 s5 wr => ∃ (z : Int) (A1 : Option Addr) (m1 c1 : Nat) (cur : List UInt8), s5 = .int .i64 z ∧ s0 = .slice A1 m1 c1 ∧ m1 = cur.length ∧ z = (gk : Int) - 1 ∧ gk ≤ L ∧ cur.length + gk ≤ l.length + L ∧ cur = (if gk = 0 then l ++ enc n else l ++ encHi (n / 128 ^ gk)) ∧ ApPost w base v0 cur wr (.slice A1 m1 c1))
    case atStart =>
      refine ⟨_, A, m0, c, l, rfl, rfl, HM0.out, by omega, Nat.le_refl _, Nat.le_refl _, ?_, ?_⟩
      · rw [if_neg (by omega), HL.out, hi_zero, encHi_zero, List.append_nil]
      · have := HAP.out.2.1
        have h2 := HVA.out
        rw [HM0.out] at h2 ⊢
        rw [h2] at this ⊢
        exact ApPost.start this HB3.out
    case round =>
      obtain ⟨z, A1, m1, c1, cur, rfl, rfl, hm1, hz, hgL, hcl, hcur, hap⟩ := hrel
      rw [← HM0.out] at hcl
      have HM1 := Lib.hid hm1
      have HCUR := Lib.hid hcur
      have HAPR := Lib.hid hap
      rw [← hm1] at hcl
      clear hm1 hcur hap
      cases gk with
      | zero =>
        have hzn : ¬ (0 : Int) ≤ z := by omega
        have HZ := Lib.hid hz
        clear hz
        go_wp2
        go_ret
        refine HRES.out _ _ _ ?_ HAPR.out
        rw [HCUR.out]; simp
      | succ i =>
        obtain rfl : z = (i : Int) := by omega
        clear hz
        have hi0 : (0 : Int) ≤ (i : Int) := by omega
        have hiL : (i : Int) ≤ 1000 := by omega
        have hcur := HCUR.out
        rw [if_neg (by omega)] at hcur
        have HCU := Lib.hid hcur
        have hne := hi_ne (n := n) (i := i) (by rw [← HL.out]; omega)
        have HNE := Lib.hid hne
        clear hcur HCUR hne
        go_wp2_with fail
        refine (newInt_any 0 (by omega) wr).mono ?_
        rintro e w4 ⟨rfl, hI4, hB4⟩
        obtain ⟨vz, hz4, hz4N⟩ := hI4
        have H4 := Lib.hid (And.intro hz4 (And.intro ((It.ap HX.out HV.out HAPR.out).step hB4) hB4))
        clear hz4 hz4N hB4
        go_wp2_with fail
        rw [show (i : Int) * 7 = ((i * 7 : Nat) : Int) from by omega]
        refine (rsh_int wr.heap.size bx n (i * 7) hn (by omega) _ _ _ w4 H4.out.1 H4.out.2.1).mono ?_
        rintro e w5 ⟨rfl, hP5⟩
        rw [shift_7] at hP5
        have H5 := Lib.hid (And.intro hP5.1 (H4.out.2.2.trans (hP5.2.below H4.out.2.2.size (fun k e => by rw [e]; exact Nat.le_refl _))))
        clear hP5
        go_wp2_with fail
        refine (bits_int wr.heap.size (n / 128 ^ i) HNE.out (div_lim hn _) _ w5 H5.out.1).mono ?_
        rintro e w6 ⟨ad, cb, lb, rfl, hlb, hcell, hB6⟩
        have HB6 := Lib.hid (H5.out.2.trans (hB6.mono H5.out.2.size))
        obtain ⟨q, hq⟩ : ∃ q, q = n / 128 ^ i := ⟨_, rfl⟩
        rw [← hq] at hcell
        obtain ⟨t, ht⟩ : ∃ t : Int, t = ((q % 18446744073709551616 : Nat) : Int) := ⟨_, rfl⟩
        rw [← ht] at hcell
        obtain ⟨m, hm⟩ : ∃ m, m = q % 128 := ⟨_, rfl⟩
        obtain ⟨y, hy⟩ : ∃ y, y = q % 256 := ⟨_, rfl⟩
        have hconv : IntKind.u8.wrap t = (y : Int) := by rw [ht, IntKind.wrap_u8]; omega
        have h127 := and127 y (by omega)
        rw [show y % 128 = m from by omega] at h127
        have hor := or128 m (by omega)
        have hm128 : m < 128 := by omega
        have hlb' : (0 : Int) < (lb : Int) := by omega
        have HQ := Lib.hid (And.intro hq hm)
        have hlen : (ints cur).length = m1 := by rw [ints_len, HM1.out]
        have HLEN := Lib.hid hlen
        clear hq ht hm hy hB6 hlen hlb
        have hR6 : ∀ x : Nat, Kd.R (Kd.int .u8) 5 (w6.alloc (.cells #[.int .u8 (x : Int)] 5)) base (fun _ => True) (.slice A1 m1 c1) (ints cur) := fun x => Kd.R_alloc (o := .cells #[.int .u8 (x : Int)] 5) (Kd.R_below HAPR.out.2.1 HB6.out)
        have HR6 := Lib.hid hR6
        have hbs : base ≤ w6.heap.size := Nat.le_trans hbase (Nat.le_trans HAPR.out.2.2.2.size HB6.out.size)
        have HBS := Lib.hid hbs
        clear hR6 hbs
        by_cases hi00 : i = 0
        · subst hi00
          go_wp2_with (at_builtin; refine Kd.R_append_row (Value.int .u8) 0 (h1 := fun _ => rfl) (w0 := w6) base rfl (.tmp 37) (.tmp 39) 23 5 (.int .u8 0) 1 rfl Tryd.underlying23 info5 rfl (by decide) (.slice A1 m1 c1) (ints cur) (ints [UInt8.ofNat m]) (some ⟨w6.heap.size, 0, none⟩) 1 1 (fun _ => True) rfl rfl (fun _ _ => trivial) (HR6.out m) (C_byte w6 m (by omega)) ((Below.refl _ _).alloc HBS.out _) (Nat.le_trans HBS.out (by simp)) (by rw [HLEN.out]; omega) ?_)
          intro v2 w7 h2 hB2 hg2 hat2
          rw [← ints_app] at h2
          have HP : Hid (ApPost w base v0 (cur ++ [UInt8.ofNat m]) w7 v2) := Lib.hid (HAPR.out.step (HB6.out.alloc HB6.out.size _) h2 hg2 (by simpa using hat2))
          obtain ⟨⟨A2, c2, rfl⟩, _⟩ := HP.out
          have hl2 : (cur ++ [UInt8.ofNat m]).length = m1 + 1 := by rw [List.length_append, ← HM1.out]; rfl
          rw [hl2] at HP ⊢
          clear h2 hB2 hg2 hat2 hl2
          go_wp2
          go_roundg 0
          case measure => omega
          case rel =>
            refine ⟨-1, A2, m1 + 1, c2, cur ++ [UInt8.ofNat m], by go_num, rfl, by rw [List.length_append, ← HM1.out]; rfl, by omega, by omega, by rw [List.length_append, ← HM1.out, ← HM0.out]; simp; omega, ?_, HP.out⟩
            rw [if_pos rfl, HCU.out, HQ.out.2, HQ.out.1, List.append_assoc]
            simp [enc]
        · have hine : ((i : Int) == 0) = false := by rw [beq_eq_false_iff_ne]; omega
          have hine' : ¬ (i : Int) = 0 := by omega
          obtain ⟨x, hx⟩ : ∃ x, x = 128 + m := ⟨_, rfl⟩
          rw [← hx] at hor
          have hx256 : x < 256 := by omega
          have HXX := Lib.hid hx
          clear hx
          go_wp2_with (at_builtin; refine Kd.R_append_row (Value.int .u8) 0 (h1 := fun _ => rfl) (w0 := w6) base rfl (.tmp 37) (.tmp 39) 23 5 (.int .u8 0) 1 rfl Tryd.underlying23 info5 rfl (by decide) (.slice A1 m1 c1) (ints cur) (ints [UInt8.ofNat x]) (some ⟨w6.heap.size, 0, none⟩) 1 1 (fun _ => True) rfl rfl (fun _ _ => trivial) (HR6.out x) (C_byte w6 x hx256) ((Below.refl _ _).alloc HBS.out _) (Nat.le_trans HBS.out (by simp)) (by rw [HLEN.out]; omega) ?_)
          intro v2 w7 h2 hB2 hg2 hat2
          rw [← ints_app] at h2
          have HP : Hid (ApPost w base v0 (cur ++ [UInt8.ofNat x]) w7 v2) := Lib.hid (HAPR.out.step (HB6.out.alloc HB6.out.size _) h2 hg2 (by simpa using hat2))
          obtain ⟨⟨A2, c2, rfl⟩, _⟩ := HP.out
          have hl2 : (cur ++ [UInt8.ofNat x]).length = m1 + 1 := by rw [List.length_append, ← HM1.out]; rfl
          rw [hl2] at HP ⊢
          clear h2 hB2 hg2 hat2 hl2
          go_wp2
          go_roundg i
          case measure => omega
          case rel =>
            refine ⟨_, A2, m1 + 1, c2, cur ++ [UInt8.ofNat x], rfl, rfl, by rw [List.length_append, ← HM1.out]; rfl, by omega, by omega, by rw [List.length_append, ← HM1.out, ← HM0.out]; simp; omega, ?_, HP.out⟩
            rw [if_neg hi00, HCU.out, HXX.out, HQ.out.2, HQ.out.1, List.append_assoc, hi_step, encHi_pos HNE.out]
end Go.Proofs.YtiopgkdldkkonaaDoor

/-
  WALK: OID's String.
-/
import Derived.Test.YtiopgkdldkkonaaDoorSb
import Derived.Deep.LoopGhost
import Derived.Deep.Cut
import Derived.Deep.CutRange
import Derived.Deep.DeepCutAuto
namespace Go.Proofs.YtiopgkdldkkonaaDoor
open Go.RowKit Go.Proofs.YtiopgkdldkkonaaDoorW.PrintWords Go.Proofs.YtiopgkdldkkonaaDoor.Num
set_option linter.unusedVariables false
set_option linter.unusedSimpArgs false

/-- What the loop knows of the number that stands behind its three variables. -/
def Big (W wr : World) (r : Nat) (v : Value) (acc : Nat) (s5 s7 s8 : Value) : Prop :=
  (s8 = .bool true ∧ (∃ g, s7 = .pointer (some ⟨g, 0, none⟩) ∧ Bg W wr r v g acc) ∧ 144115188075855872 ≤ acc ∧ ∃ x, s5 = .int .u64 x) ∨
  (s8 = .bool false ∧ s5 = .int .u64 acc ∧ acc < 18446744073709551616 ∧ Idle W wr s7)
/-- The first number still stands out: the builder is empty, and has room. -/
def Fst (v : Value) (out : List UInt8) : Prop := out = [] ∧ ∃ rr cc, v = .slice (some ⟨rr, 0, none⟩) 0 cc ∧ 32 ≤ cc
structure Lp (W wr : World) (l : List UInt8) (i st acc r cap : Nat) (v : Value) (out : List UInt8) : Prop where
  sn : Sn W wr r cap v out
  val : oidGo (l.drop i) (decide (st = 0)) acc out = oidText l
  fst : st = 0 → Fst v out
  acc : acc < 128 ^ i
  len : out.length ≤ 3000 * i
  st : st ≤ i

theorem dec_le {n : Nat} (h : n < lim) : (Lib.decDigits n).length ≤ 2000 := by
  by_cases h0 : n = 0
  · subst h0; unfold Lib.decDigits; simp
  · rw [dec_len h0]; exact rv_lim h
theorem head1_len {n : Nat} (h : n < lim) : (head1 n).length ≤ 2010 := by
  unfold head1
  split
  · have h1 : (Lib.decDigits (n / 40)).length ≤ 2 := by
      rw [Lib.decDigits_length]
      rw [Lib.nDigits_small (show n / 40 < 10 by omega)]; omega
    have h2 : (Lib.decDigits (n % 40)).length ≤ 2 := by
      rw [Lib.decDigits_length]
      by_cases h10 : n % 40 < 10
      · rw [Lib.nDigits_small h10]; omega
      · rw [Lib.nDigits_big h10, Lib.nDigits_small (show n % 40 / 10 < 10 by omega)]; omega
    simp; omega
  · have := dec_le (n := n - 80) (by omega)
    simp; omega
theorem pow_up (c i k : Nat) (hc : 0 < c) (h : i ≤ k) : c ^ i ≤ c ^ k := Nat.pow_le_pow_right hc h
theorem pow_lim {i : Nat} (hi : i ≤ 900) {a : Nat} (ha : a < 128 ^ i) : a < lim := by
  refine Nat.lt_of_lt_of_le ha ?_
  have h1 := pow_up 128 i (9 * 100) (by decide) (by omega)
  have h2 : ∀ c a b : Nat, c ^ (a * b) = (c ^ a) ^ b := fun c a b => Nat.pow_mul c a b
  rw [h2 128 9 100] at h1
  have h3 : lim = (4294967296 ^ 2) ^ 100 := by
    have h4 : lim = 4294967296 ^ (2 * 100) := rfl
    rw [h4, h2]
  rw [h3]
  exact Nat.le_trans h1 (Nat.pow_le_pow_left (by decide) 100)
section
variable {W w w1 : World} {l : List UInt8} {i st acc r cap r1 cap1 : Nat} {v v1 : Value} {out : List UInt8} {x : UInt8}
theorem Lp.next (h : Lp W w l i st acc r cap v out) (hi : i < l.length) (hl : l.length ≤ 900) (hx : l[i] = x) : l.drop i = x :: l.drop (i + 1) ∧ acc * 128 + x.toNat % 128 < 128 ^ (i + 1) ∧ acc < lim ∧ acc * 128 < lim ∧ acc * 128 + x.toNat % 128 < lim ∧ out.length ≤ 3000000 := by
  have h1 : acc * 128 + x.toNat % 128 < 128 ^ (i + 1) := by have := h.acc; rw [Nat.pow_succ]; omega
  have h2 := pow_lim (i := i + 1) (by omega) h1
  refine ⟨by rw [← hx]; exact List.drop_eq_getElem_cons hi, h1, by omega, by omega, h2, ?_⟩
  have := h.len; omega
theorem Lp.more (h : Lp W w l i st acc r cap v out) (hi : i < l.length) (hl : l.length ≤ 900) (hx : l[i] = x) (he : ¬ x.toNat < 128) (hs : Sn W w1 r1 cap1 v out) : Lp W w1 l (i + 1) st (acc * 128 + x.toNat % 128) r1 cap1 v out := by
  obtain ⟨hd, ha, _⟩ := h.next hi hl hx
  refine ⟨hs, ?_, h.fst, ha, ?_, by have := h.st; omega⟩
  · rw [← h.val, hd, oidGo, if_neg he]
  · have := h.len; omega
theorem Lp.first (h : Lp W w l i st acc r cap v out) (hi : i < l.length) (hl : l.length ≤ 900) (hx : l[i] = x) (he : x.toNat < 128) (h0 : st = 0) (hs : Sn W w1 r1 cap1 v1 (out ++ head1 (acc * 128 + x.toNat % 128))) : Lp W w1 l (i + 1) (i + 1) 0 r1 cap1 v1 (out ++ head1 (acc * 128 + x.toNat % 128)) := by
  obtain ⟨hd, ha, _, _, hlim, _⟩ := h.next hi hl hx
  refine ⟨hs, ?_, fun e => by omega, Nat.pow_pos (by omega), ?_, Nat.le_refl _⟩
  · rw [← h.val, hd, oidGo, if_pos he, decide_eq_true h0, if_pos rfl, decide_eq_false (by omega), show x.toNat % 128 = x.toNat from by omega]
  · have := h.len; have := head1_len hlim; simp; omega
theorem Lp.then (h : Lp W w l i st acc r cap v out) (hi : i < l.length) (hl : l.length ≤ 900) (hx : l[i] = x) (he : x.toNat < 128) (h0 : st ≠ 0) (hs : Sn W w1 r1 cap1 v1 (out ++ [46] ++ Lib.decDigits (acc * 128 + x.toNat % 128))) : Lp W w1 l (i + 1) (i + 1) 0 r1 cap1 v1 (out ++ [46] ++ Lib.decDigits (acc * 128 + x.toNat % 128)) := by
  obtain ⟨hd, ha, _, _, hlim, _⟩ := h.next hi hl hx
  refine ⟨hs, ?_, fun e => by omega, Nat.pow_pos (by omega), ?_, Nat.le_refl _⟩
  · rw [← h.val, hd, oidGo, if_pos he, decide_eq_false h0, if_neg (by simp), decide_eq_false (by omega), show x.toNat % 128 = x.toNat from by omega]
  · have := h.len; have := dec_le hlim; simp; omega
end

set_option maxRecDepth 100000 in
theorem and127 : ∀ n : Nat, n < 256 → Go.bits .and .u8 (n : Int) 127 = ((n % 128 : Nat) : Int) := by decide
set_option maxRecDepth 100000 in
theorem and128 : ∀ n : Nat, n < 256 → Go.bits .and .u8 (n : Int) 128 = if n < 128 then 0 else 128 := by decide
theorem or7 {a c : Nat} (ha : a < 144115188075855872) (hc : c < 128) : Go.bits .or .u64 ((a : Int) * 128) (c : Int) = ((a * 128 + c : Nat) : Int) := by
  rw [bits_join .u64 64 (by decide) (fun n a b => by rw [IntKind.wrap_u64]; omega) 7 _ _ (by omega) (by omega) (by omega) (by omega) (by omega) (by omega)]
  omega

theorem sn_dot {W w : World} {r cap : Nat} {v : Value} {out : List UInt8} (h : Sn W w r cap v out) (hl : out.length + 1 ≤ 140737488355328) :
    Calls Tryd.prog 25 #[.pointer (some ⟨W.heap.size, 0, none⟩), .int .u8 46] w fun e w' => e = .returned .nilIface ∧ ∃ v1, Sn W w' r cap v1 (out ++ [46]) ∧ Nx w v v1 ∧ Ch w w' (fun k => k = W.heap.size ∨ some k = v.ownBlock) := sn_byte h 46 hl

set_option maxHeartbeats 40000000 in
set_option maxRecDepth 100000 in
theorem string_any (l : List UInt8) (hl : l.length ≤ 900) (hl0 : 0 < l.length) (ad : Addr) (c : Nat) (w : World) (hcl : ∀ j u, (Lib.byteCells l)[j]? = some u → w.cell? (ad.add j) = some u)
    (htab : Lib.TabIs Tryd.prog w "internal/strconv.uint64pow10" .u64 Lib.pow10Tab) :
    Calls Tryd.prog 15 #[.agg #[.slice (some ad) l.length c]] w fun e w' => e = .returned (.string ⟨(oidText l).toArray⟩) ∧ Below w.heap.size w w' := by
  have hu39 := Tryd.underlying39
  obtain ⟨W, hW⟩ : ∃ W, W = w.alloc (.cells #[.slice (some ad) l.length c] 39) := ⟨_, rfl⟩
  have hWs : W.heap.size = w.heap.size + 1 := by rw [hW]; simp
  have HWB : Hid (∀ w', Below W.heap.size W w' → Below w.heap.size w w') := Lib.hid fun w' hB => by
    rw [hWs] at hB
    rw [hW] at hB
    exact ((Below.refl w.heap.size w).alloc (Nat.le_refl _) _).trans (hB.mono (by omega))
  have hW0 : W.cell? ⟨w.heap.size, 0, none⟩ = some (.slice (some ad) l.length c) := by rw [hW, World.cell?_alloc_new]; rfl
  have HTAB : Hid (Lib.TabIs Tryd.prog W "internal/strconv.uint64pow10" .u64 Lib.pow10Tab) := Lib.hid (by rw [hW]; exact Lib.tabIs_alloc htab _)
  have HCL : Hid (∀ j u, (Lib.byteCells l)[j]? = some u → W.cell? (ad.add j) = some u) := Lib.hid (fun j u hj => by
    rw [hW, World.cell?_alloc_old _ _ _ (Nat.ne_of_lt (World.block_lt_of_cell? _ _ (hcl j u hj)))]; exact hcl j u hj)
  obtain ⟨i0, hi, hz0, hz1, hz2⟩ := info_parts info5
  clear htab hcl
  go_enter Tryd.func15, Tryd.ntmps15
  go_wp2_with fail
  rw [← hW, ← hWs]
  have hb0 : (W.alloc (.cells #[.pointer none, .slice none 0 0] 59)).heap[W.heap.size]? = some (.cells #[.pointer none, .slice none 0 0] 59 (0, 0)) := heap_alloc_new W _
  refine (Tryd.Builder_Grow_fresh_cap W.heap.size W.heap.size 32 _ (Nat.le_refl _) hb0 (by simp) (by omega)).mono ?_
  rintro e wg ⟨rfl, ⟨⟨_, v0, hbv, hov, _⟩, hbB⟩, p0, cap0, hc0, hcap0⟩
  have hbe : Below W.heap.size W wg := ((Below.refl _ W).alloc (Nat.le_refl _) _).trans hbB
  have hsz : W.heap.size < wg.heap.size := blk_lt hbv
  obtain rfl : v0 = .slice p0 0 cap0 := by
    rw [Lib.cell_of_heap hbv] at hc0
    simpa using hc0
  obtain ⟨rr, rfl⟩ : ∃ rr, p0 = some ⟨rr, 0, none⟩ := by
    rcases hov.2 with ⟨hv, _⟩ | ⟨g, cap', cur, hv, _⟩
    · injection hv with _ _ hv; omega
    · injection hv with hv; exact ⟨g, hv⟩
  obtain ⟨w3, hmk, hown, hgr⟩ := run_make_own (P := Tryd.prog) wg W.heap.size 23 5 i0 (.int .u8 0) 1 Tryd.underlying23 hi hz0 hz1 .i64 .i64 21 (by rw [hz2]; omega) (by unfold maxLen; omega) (Nat.le_of_lt hsz)
  have hch : Ch wg w3 (fun _ => False) := Ch.of_grown hgr (fun k hk => by cases hk)
  have hrr := own_lt hov rr (by simp [Value.ownBlock])
  have hbe3 : Below W.heap.size W w3 := hbe.trans (hch.below (Nat.le_of_lt hsz) (fun _ h => h.elim))
  have HS : Hid (Lp W w3 l 0 0 0 wg.heap.size 21 (.slice (some ⟨rr, 0, none⟩) 0 cap0) []) := Lib.hid
    ⟨⟨hbe3, ⟨⟨_, .inr rfl, hch.blk hbv (fun h => h)⟩, hch.own hov (fun _ _ h => h)⟩, hown, by omega, by simp [Value.ownBlock]; omega⟩, rfl, fun _ => ⟨rfl, rr, cap0, rfl, hcap0⟩, by simp, by simp, Nat.le_refl _⟩
  have hW3 := (hbe3.cell (p := ⟨w.heap.size, 0, none⟩) (by rw [hWs]; simp)).trans hW0
  rw [show ((21 : Nat) : Int) = 21 from rfl] at hmk
  have HWS := Lib.hid hWs
  clear hbe hov hbB hbv hc0 hgr hch hrr hown hbe3 hb0 hi hz0 hz1 hz2 hsz hWs hW hW0 hcap0
  generalize hws : w.heap.size = ws at *
  have HWS0 := Lib.hid hws
  clear hws
  go_wp2_with fail
  go_loopg [4, 5, 6, 7, 8, 18] l.length (fun gk s4 s5 s6 s7 s8 s18 wr => ∃ i st acc r cap v out, i ≤ l.length ∧ gk = l.length - i ∧ s18 = .int .i64 (i : Nat) ∧ s4 = .int .i64 (st : Nat) ∧ s6 = .slice (some ⟨r, 0, none⟩) 0 cap ∧ Lp W wr l i st acc r cap v out ∧ Big W wr r v acc s5 s7 s8)
  case atStart => exact ⟨0, 0, 0, _, _, _, _, Nat.zero_le _, rfl, rfl, rfl, rfl, HS.out, .inr ⟨rfl, rfl, by omega, .inl rfl⟩⟩
  case round =>
    obtain ⟨i, st, acc, r, cap, v, out, hi, rfl, rfl, rfl, rfl, hL, hB⟩ := hrel
    by_cases hin : i < l.length
    · obtain ⟨x, hx⟩ : ∃ x : UInt8, l[i] = x := ⟨_, rfl⟩
      have hbe := hL.sn.be
      have cx : wr.cell? (ad.add i) = some (.int .u8 x.toNat) := (hbe.cell (World.block_lt_of_cell? _ _ (HCL.out i _ (by simp [Lib.byteCells, hin]; rfl)))).trans (HCL.out i _ (by simp [Lib.byteCells, hin, hx]))
      have hx256 : x.toNat < 256 := by have := x.toNat_lt; omega
      have h127 := and127 x.toNat hx256
      have h128 := and128 x.toNat hx256
      obtain ⟨n, hn⟩ : ∃ n, n = x.toNat := ⟨_, rfl⟩
      rw [← hn] at hx256 h127 h128 cx
      clear hbe hW3 hmk HS
      by_cases hend : n < 128
      · have hend1 := hend
        rw [if_pos hend] at h128
        obtain ⟨hd, ha, hlim0, hlim1, hlim2, hout⟩ := hL.next hin hl hx
        rw [← hn] at hlim2
        obtain ⟨m, hm⟩ : ∃ m, m = n % 128 := ⟨_, rfl⟩
        rw [← hm] at h127 hlim2
        have hm128 : m < 128 := by omega
        have HM := Lib.hid hm
        have HL := Lib.hid hL
        have HE := Lib.hid hend
        have HOUT := Lib.hid hout
        have HLIM := Lib.hid (And.intro hlim0 (And.intro hlim1 hlim2))
        have HX := Lib.hid (And.intro hx hn)
        have hz : ((128 : Int) == 0) = false := by decide
        clear hd ha hlim0 hlim1 hlim2 hout hm hL hend hx hn
        clear hend1
        have hz0 : ((0 : Int) == 0) = true := by decide
        by_cases h0 : st = 0
        · obtain ⟨hout0, rr, cc, hv, hcc⟩ := HL.out.fst h0
          subst h0; subst hout0; subst hv
          have END : ∀ {w1 r1 cap1 v1}, Sn W w1 r1 cap1 v1 ([] ++ head1 (acc * 128 + m)) → Lp W w1 l (i + 1) (i + 1) 0 r1 cap1 v1 ([] ++ head1 (acc * 128 + m)) := fun hs => by
            have hm := HM.out
            rw [HX.out.2] at hm
            rw [hm] at hs ⊢
            exact HL.out.first hin hl HX.out.1 (by rw [← HX.out.2]; exact HE.out) rfl hs
          rcases hB with ⟨rfl, ⟨g, rfl, hg⟩, hacc, u, rfl⟩ | ⟨rfl, rfl, hacc, h7⟩
          · have HS0 := Lib.hid (And.intro HL.out.sn hg)
            clear hg
            go_wp2_with fail
            refine (bg_lsh HS0.out.1 HS0.out.2 HLIM.out.1).mono ?_
            rintro e w1 ⟨rfl, hs1, hg1⟩
            have HS1 := Lib.hid (And.intro hs1 hg1)
            clear hs1 hg1 HS0
            go_wp2_with fail
            refine (bg_new HS1.out.1 HS1.out.2 m (by omega)).mono ?_
            rintro e w2 ⟨z2, T2, rfl, hs1, hg1, hz1⟩
            have HS2 := Lib.hid (And.intro hs1 (And.intro hg1 hz1))
            clear hs1 hg1 hz1 HS1
            go_wp2_with fail
            refine (bg_or HS2.out.1 HS2.out.2.1 (by omega) HLIM.out.2.1 (by omega) hm128 HS2.out.2.2).mono ?_
            rintro e w3 ⟨rfl, hs1, hg1⟩
            have HS3 := Lib.hid (And.intro hs1 hg1)
            clear hs1 hg1 HS2
            go_wp2_with fail
            refine (sn_str (out := []) HS3.out.1 [50, 46] (by simp; omega)).mono ?_
            rintro e w4 ⟨rfl, v4, hs1, hn1, hc1⟩
            have HS4 := Lib.hid (And.intro hs1 (HS3.out.2.bd HS3.out.1 hn1 hc1))
            clear hs1 hn1 hc1 HS3
            go_wp2_with fail
            refine (bg_new HS4.out.1 HS4.out.2 80 (by omega)).mono ?_
            rintro e w5 ⟨z5, T5, rfl, hs1, hg1, hz1⟩
            have HS5 := Lib.hid (And.intro hs1 (And.intro hg1 hz1))
            clear hs1 hg1 hz1 HS4
            go_wp2_with fail
            refine (bg_sub HS5.out.1 HS5.out.2.1 HLIM.out.2.2 (by omega) HS5.out.2.2).mono ?_
            rintro e w6 ⟨rfl, hs1, hg1⟩
            have HS6 := Lib.hid (And.intro hs1 hg1)
            clear hs1 hg1 HS5
            go_wp2_with fail
            refine (bg_append HS6.out.1 HS6.out.2 (by omega) (by have := HLIM.out.2.2; omega)).mono ?_
            rintro e w7 ⟨r7, cap7, rfl, ho1, hs1, hg1⟩
            have HS7 := Lib.hid (And.intro hs1 hg1)
            have HR7 := Lib.hid ho1
            clear hs1 hg1 ho1 HS6
            go_wp2_with fail
            refine (sn_write HS7.out.1 (Lib.decDigits (acc * 128 + m - 80)) HR7.out (by have := dec_le (n := acc * 128 + m - 80) (by have := HLIM.out.2.2; omega); simp; omega)).mono ?_
            rintro e w8 ⟨rfl, v8, hs1, hn1, hc1⟩
            have HS8 := Lib.hid (And.intro hs1 (HS7.out.2.bd HS7.out.1 hn1 hc1))
            clear hs1 hn1 hc1 HS7
            go_wp2_with fail
            have hh : [] ++ [50, 46] ++ Lib.decDigits (acc * 128 + m - 80) = [] ++ head1 (acc * 128 + m) := by
              unfold head1; rw [if_neg (by omega)]; simp
            have HH := Lib.hid hh
            clear hh
            go_roundg (l.length - (i + 1))
            case measure => omega
            case rel =>
              have hb : Big W w8 r7 v8 0 (.int .u64 0) (.pointer (some ⟨g, 0, none⟩)) (.bool false) := .inr ⟨rfl, rfl, by omega, HS8.out.2.idle⟩
              exact ⟨i + 1, (i + 1), 0, r7, cap7, v8, _, by omega, rfl, by go_num, by go_num, rfl, (END (by rw [← HH.out]; exact HS8.out.1)), hb⟩
          · by_cases hsafe : acc < 144115188075855872
            · have hs1 : ¬ (144115188075855871 < (acc : Int)) := by omega
              have hor := or7 hsafe hm128
              obtain ⟨V, hV⟩ : ∃ V, V = acc * 128 + m := ⟨_, rfl⟩
              rw [← hV] at hor
              have hV64 : V < 18446744073709551616 := by omega
              have HV := Lib.hid hV
              have HS0 := Lib.hid (And.intro HL.out.sn h7)
              clear h7 hV
              by_cases h80 : V < 80
              · have h80' : (V : Int) < 80 := by omega
                have hq : Int.tdiv (V : Int) 40 = ((V / 40 : Nat) : Int) := by rw [show (40 : Int) = ((40 : Nat) : Int) from rfl, ← Int.ofNat_tdiv]
                have hr0 : Int.tmod (V : Int) 40 = ((V % 40 : Nat) : Int) := by rw [show (40 : Int) = ((40 : Nat) : Int) from rfl, ← Int.ofNat_tmod]
                obtain ⟨q, hq1⟩ : ∃ q, q = V / 40 := ⟨_, rfl⟩
                obtain ⟨t, ht1⟩ : ∃ t, t = V % 40 := ⟨_, rfl⟩
                rw [← hq1] at hq
                rw [← ht1] at hr0
                have hq2 : q < 2 := by omega
                have ht2 : t < 40 := by omega
                have HQ := Lib.hid (And.intro hq1 ht1)
                clear hq1 ht1
                go_wp2_with fail
                refine (sn_uint HS0.out.1 q (by omega) HTAB.out).mono ?_
                rintro e w1 ⟨rfl, ho1, hs1, hc1⟩
                have HS1 := Lib.hid (And.intro hs1 (HS0.out.2.num HS0.out.1 hc1))
                have HR1 := Lib.hid ho1
                clear hs1 hc1 ho1 HS0
                go_wp2_with fail
                refine (sn_write HS1.out.1 (Lib.decDigits q) HR1.out (by have := dec_le (n := q) (Nat.lt_trans (show q < 128 ^ 1 by omega) (by unfold lim; decide)); simp; omega)).mono ?_
                rintro e w2 ⟨rfl, v2, hs1, hn1, hc1⟩
                have HS2 := Lib.hid (And.intro hs1 (HS1.out.2.bd HS1.out.1 hc1))
                clear hs1 hn1 hc1 HS1
                go_wp2_with fail
                refine (sn_dot HS2.out.1 (by have := dec_le (n := q) (Nat.lt_trans (show q < 128 ^ 1 by omega) (by unfold lim; decide)); simp; omega)).mono ?_
                rintro e w3 ⟨rfl, v3, hs1, hn1, hc1⟩
                have HS3 := Lib.hid (And.intro hs1 (HS2.out.2.bd HS2.out.1 hc1))
                clear hs1 hn1 hc1 HS2
                go_wp2_with fail
                refine (sn_uint HS3.out.1 t (by omega) HTAB.out).mono ?_
                rintro e w4 ⟨rfl, ho1, hs1, hc1⟩
                have HS4 := Lib.hid (And.intro hs1 (HS3.out.2.num HS3.out.1 hc1))
                have HR4 := Lib.hid ho1
                clear hs1 hc1 ho1 HS3
                go_wp2_with fail
                refine (sn_write HS4.out.1 (Lib.decDigits t) HR4.out (by have := dec_le (n := q) (Nat.lt_trans (show q < 128 ^ 1 by omega) (by unfold lim; decide)); have := dec_le (n := t) (Nat.lt_trans (show t < 128 ^ 1 by omega) (by unfold lim; decide)); simp; omega)).mono ?_
                rintro e w5 ⟨rfl, v5, hs1, hn1, hc1⟩
                have HS5 := Lib.hid (And.intro hs1 (HS4.out.2.bd HS4.out.1 hc1))
                clear hs1 hn1 hc1 HS4
                go_wp2_with fail
                have hh : [] ++ Lib.decDigits q ++ [46] ++ Lib.decDigits t = [] ++ head1 (acc * 128 + m) := by
                  unfold head1; rw [← HV.out, if_pos h80, HQ.out.1, HQ.out.2]; simp
                have HH := Lib.hid hh
                clear hh
                go_roundg (l.length - (i + 1))
                case measure => omega
                case rel =>
                  have hb : Big W w5 r v5 0 (.int .u64 0) _ (.bool false) := .inr ⟨rfl, rfl, by omega, HS5.out.2⟩
                  exact ⟨i + 1, (i + 1), 0, r, cap, v5, _, by omega, rfl, by go_num, by go_num, rfl, (END (by rw [← HH.out]; exact HS5.out.1)), hb⟩
              · have h80' : ¬ ((V : Int) < 80) := by omega
                obtain ⟨q, hq1⟩ : ∃ q, q = V - 80 := ⟨_, rfl⟩
                have hq : (V : Int) - 80 = (q : Int) := by omega
                have hq2 : q < 18446744073709551616 := by omega
                have HQ := Lib.hid hq1
                clear hq1
                go_wp2_with fail
                refine (sn_str (out := []) HS0.out.1 [50, 46] (by simp; omega)).mono ?_
                rintro e w1 ⟨rfl, v1, hs1, hn1, hc1⟩
                have HS1 := Lib.hid (And.intro hs1 (HS0.out.2.bd HS0.out.1 hc1))
                clear hs1 hn1 hc1 HS0
                go_wp2_with fail
                refine (sn_uint HS1.out.1 q (by omega) HTAB.out).mono ?_
                rintro e w2 ⟨rfl, ho1, hs1, hc1⟩
                have HS2 := Lib.hid (And.intro hs1 (HS1.out.2.num HS1.out.1 hc1))
                have HR2 := Lib.hid ho1
                clear hs1 hc1 ho1 HS1
                go_wp2_with fail
                refine (sn_write HS2.out.1 (Lib.decDigits q) HR2.out (by have := dec_le (n := q) (Nat.lt_trans hq2 (by unfold lim; decide)); simp; omega)).mono ?_
                rintro e w3 ⟨rfl, v3, hs1, hn1, hc1⟩
                have HS3 := Lib.hid (And.intro hs1 (HS2.out.2.bd HS2.out.1 hc1))
                clear hs1 hn1 hc1 HS2
                go_wp2_with fail
                have hh : [] ++ [50, 46] ++ Lib.decDigits q = [] ++ head1 (acc * 128 + m) := by
                  unfold head1; rw [← HV.out, if_neg h80, HQ.out]; simp
                have HH := Lib.hid hh
                clear hh
                go_roundg (l.length - (i + 1))
                case measure => omega
                case rel =>
                  have hb : Big W w3 r v3 0 (.int .u64 0) _ (.bool false) := .inr ⟨rfl, rfl, by omega, HS3.out.2⟩
                  exact ⟨i + 1, (i + 1), 0, r, cap, v3, _, by omega, rfl, by go_num, by go_num, rfl, (END (by rw [← HH.out]; exact HS3.out.1)), hb⟩
            · have hs1 : 144115188075855871 < (acc : Int) := by omega
              rcases h7 with rfl | ⟨g, x0, y0, rfl, hg0, hgb⟩
              · have HS0 := Lib.hid (And.intro HL.out.sn True.intro)
                go_wp2_with fail
                refine (bg_set (HS0.out.1.step_new ((Below.refl _ _).alloc (Nat.le_refl _) _)) (Nat.le_of_lt HS0.out.1.sb_lt) (heap_alloc_new _ _) acc hacc).mono ?_
                rintro e w1 ⟨rfl, hs1, hg1⟩
                have HS1 := Lib.hid (And.intro hs1 hg1)
                clear hs1 hg1 HS0
                go_wp2_with fail
                refine (bg_lsh HS1.out.1 HS1.out.2 HLIM.out.1).mono ?_
                rintro e w2 ⟨rfl, hs1, hg1⟩
                have HS2 := Lib.hid (And.intro hs1 hg1)
                clear hs1 hg1 HS1
                go_wp2_with fail
                refine (bg_new HS2.out.1 HS2.out.2 m (by omega)).mono ?_
                rintro e w3 ⟨z3, T3, rfl, hs1, hg1, hz1⟩
                have HS3 := Lib.hid (And.intro hs1 (And.intro hg1 hz1))
                clear hs1 hg1 hz1 HS2
                go_wp2_with fail
                refine (bg_or HS3.out.1 HS3.out.2.1 (by omega) HLIM.out.2.1 (by omega) hm128 HS3.out.2.2).mono ?_
                rintro e w4 ⟨rfl, hs1, hg1⟩
                have HS4 := Lib.hid (And.intro hs1 hg1)
                clear hs1 hg1 HS3
                go_wp2_with fail
                refine (sn_str (out := []) HS4.out.1 [50, 46] (by simp; omega)).mono ?_
                rintro e w5 ⟨rfl, v5, hs1, hn1, hc1⟩
                have HS5 := Lib.hid (And.intro hs1 (HS4.out.2.bd HS4.out.1 hn1 hc1))
                clear hs1 hn1 hc1 HS4
                go_wp2_with fail
                refine (bg_new HS5.out.1 HS5.out.2 80 (by omega)).mono ?_
                rintro e w6 ⟨z6, T6, rfl, hs1, hg1, hz1⟩
                have HS6 := Lib.hid (And.intro hs1 (And.intro hg1 hz1))
                clear hs1 hg1 hz1 HS5
                go_wp2_with fail
                refine (bg_sub HS6.out.1 HS6.out.2.1 HLIM.out.2.2 (by omega) HS6.out.2.2).mono ?_
                rintro e w7 ⟨rfl, hs1, hg1⟩
                have HS7 := Lib.hid (And.intro hs1 hg1)
                clear hs1 hg1 HS6
                go_wp2_with fail
                refine (bg_append HS7.out.1 HS7.out.2 (by omega) (by have := HLIM.out.2.2; omega)).mono ?_
                rintro e w8 ⟨r8, cap8, rfl, ho1, hs1, hg1⟩
                have HS8 := Lib.hid (And.intro hs1 hg1)
                have HR8 := Lib.hid ho1
                clear hs1 hg1 ho1 HS7
                go_wp2_with fail
                refine (sn_write HS8.out.1 (Lib.decDigits (acc * 128 + m - 80)) HR8.out (by have := dec_le (n := acc * 128 + m - 80) (by have := HLIM.out.2.2; omega); simp; omega)).mono ?_
                rintro e w9 ⟨rfl, v9, hs1, hn1, hc1⟩
                have HS9 := Lib.hid (And.intro hs1 (HS8.out.2.bd HS8.out.1 hn1 hc1))
                clear hs1 hn1 hc1 HS8
                go_wp2_with fail
                have hh : [] ++ [50, 46] ++ Lib.decDigits (acc * 128 + m - 80) = [] ++ head1 (acc * 128 + m) := by
                  unfold head1; rw [if_neg (by omega)]; simp
                have HH := Lib.hid hh
                clear hh
                go_roundg (l.length - (i + 1))
                case measure => omega
                case rel =>
                  have hb : Big W w9 r8 v9 0 (.int .u64 0) (.pointer (some ⟨wr.heap.size, 0, none⟩)) (.bool false) := .inr ⟨rfl, rfl, by omega, HS9.out.2.idle⟩
                  exact ⟨i + 1, (i + 1), 0, r8, cap8, v9, _, by omega, rfl, by go_num, by go_num, rfl, (END (by rw [← HH.out]; exact HS9.out.1)), hb⟩
              · have HS0 := Lib.hid (And.intro HL.out.sn (And.intro hg0 hgb))
                clear hg0 hgb
                go_wp2_with fail
                refine (bg_set HS0.out.1 HS0.out.2.1 HS0.out.2.2 acc hacc).mono ?_
                rintro e w1 ⟨rfl, hs1, hg1⟩
                have HS1 := Lib.hid (And.intro hs1 hg1)
                clear hs1 hg1 HS0
                go_wp2_with fail
                refine (bg_lsh HS1.out.1 HS1.out.2 HLIM.out.1).mono ?_
                rintro e w2 ⟨rfl, hs1, hg1⟩
                have HS2 := Lib.hid (And.intro hs1 hg1)
                clear hs1 hg1 HS1
                go_wp2_with fail
                refine (bg_new HS2.out.1 HS2.out.2 m (by omega)).mono ?_
                rintro e w3 ⟨z3, T3, rfl, hs1, hg1, hz1⟩
                have HS3 := Lib.hid (And.intro hs1 (And.intro hg1 hz1))
                clear hs1 hg1 hz1 HS2
                go_wp2_with fail
                refine (bg_or HS3.out.1 HS3.out.2.1 (by omega) HLIM.out.2.1 (by omega) hm128 HS3.out.2.2).mono ?_
                rintro e w4 ⟨rfl, hs1, hg1⟩
                have HS4 := Lib.hid (And.intro hs1 hg1)
                clear hs1 hg1 HS3
                go_wp2_with fail
                refine (sn_str (out := []) HS4.out.1 [50, 46] (by simp; omega)).mono ?_
                rintro e w5 ⟨rfl, v5, hs1, hn1, hc1⟩
                have HS5 := Lib.hid (And.intro hs1 (HS4.out.2.bd HS4.out.1 hn1 hc1))
                clear hs1 hn1 hc1 HS4
                go_wp2_with fail
                refine (bg_new HS5.out.1 HS5.out.2 80 (by omega)).mono ?_
                rintro e w6 ⟨z6, T6, rfl, hs1, hg1, hz1⟩
                have HS6 := Lib.hid (And.intro hs1 (And.intro hg1 hz1))
                clear hs1 hg1 hz1 HS5
                go_wp2_with fail
                refine (bg_sub HS6.out.1 HS6.out.2.1 HLIM.out.2.2 (by omega) HS6.out.2.2).mono ?_
                rintro e w7 ⟨rfl, hs1, hg1⟩
                have HS7 := Lib.hid (And.intro hs1 hg1)
                clear hs1 hg1 HS6
                go_wp2_with fail
                refine (bg_append HS7.out.1 HS7.out.2 (by omega) (by have := HLIM.out.2.2; omega)).mono ?_
                rintro e w8 ⟨r8, cap8, rfl, ho1, hs1, hg1⟩
                have HS8 := Lib.hid (And.intro hs1 hg1)
                have HR8 := Lib.hid ho1
                clear hs1 hg1 ho1 HS7
                go_wp2_with fail
                refine (sn_write HS8.out.1 (Lib.decDigits (acc * 128 + m - 80)) HR8.out (by have := dec_le (n := acc * 128 + m - 80) (by have := HLIM.out.2.2; omega); simp; omega)).mono ?_
                rintro e w9 ⟨rfl, v9, hs1, hn1, hc1⟩
                have HS9 := Lib.hid (And.intro hs1 (HS8.out.2.bd HS8.out.1 hn1 hc1))
                clear hs1 hn1 hc1 HS8
                go_wp2_with fail
                have hh : [] ++ [50, 46] ++ Lib.decDigits (acc * 128 + m - 80) = [] ++ head1 (acc * 128 + m) := by
                  unfold head1; rw [if_neg (by omega)]; simp
                have HH := Lib.hid hh
                clear hh
                go_roundg (l.length - (i + 1))
                case measure => omega
                case rel =>
                  have hb : Big W w9 r8 v9 0 (.int .u64 0) (.pointer (some ⟨g, 0, none⟩)) (.bool false) := .inr ⟨rfl, rfl, by omega, HS9.out.2.idle⟩
                  exact ⟨i + 1, (i + 1), 0, r8, cap8, v9, _, by omega, rfl, by go_num, by go_num, rfl, (END (by rw [← HH.out]; exact HS9.out.1)), hb⟩
        · have hst : ¬ ((st : Int) = 0) := by omega
          have END : ∀ {w1 r1 cap1 v1}, Sn W w1 r1 cap1 v1 (out ++ [46] ++ Lib.decDigits (acc * 128 + m)) → Lp W w1 l (i + 1) (i + 1) 0 r1 cap1 v1 (out ++ [46] ++ Lib.decDigits (acc * 128 + m)) := fun hs => by
            have hm := HM.out
            rw [HX.out.2] at hm
            rw [hm] at hs ⊢
            exact HL.out.then hin hl HX.out.1 (by rw [← HX.out.2]; exact HE.out) h0 hs
          rcases hB with ⟨rfl, ⟨g, rfl, hg⟩, hacc, u, rfl⟩ | ⟨rfl, rfl, hacc, h7⟩
          · have HS0 := Lib.hid (And.intro HL.out.sn hg)
            clear hg
            go_wp2_with fail
            refine (sn_dot HS0.out.1 (by have := HOUT.out; omega)).mono ?_
            rintro e w1 ⟨rfl, v1, hs1, hn1, hc1⟩
            have HS1 := Lib.hid (And.intro hs1 (HS0.out.2.bd HS0.out.1 hn1 hc1))
            clear hs1 hn1 hc1 HS0
            go_wp2_with fail
            refine (bg_lsh HS1.out.1 HS1.out.2 HLIM.out.1).mono ?_
            rintro e w2 ⟨rfl, hs1, hg1⟩
            have HS2 := Lib.hid (And.intro hs1 hg1)
            clear hs1 hg1 HS1
            go_wp2_with fail
            refine (bg_new HS2.out.1 HS2.out.2 m (by omega)).mono ?_
            rintro e w3 ⟨z3, T3, rfl, hs1, hg1, hz1⟩
            have HS3 := Lib.hid (And.intro hs1 (And.intro hg1 hz1))
            clear hs1 hg1 hz1 HS2
            go_wp2_with fail
            refine (bg_or HS3.out.1 HS3.out.2.1 (by omega) HLIM.out.2.1 (by omega) hm128 HS3.out.2.2).mono ?_
            rintro e w4 ⟨rfl, hs1, hg1⟩
            have HS4 := Lib.hid (And.intro hs1 hg1)
            clear hs1 hg1 HS3
            go_wp2_with fail
            refine (bg_append HS4.out.1 HS4.out.2 (by omega) HLIM.out.2.2).mono ?_
            rintro e w5 ⟨r5, cap5, rfl, ho1, hs1, hg1⟩
            have HS5 := Lib.hid (And.intro hs1 hg1)
            have HR5 := Lib.hid ho1
            clear hs1 hg1 ho1 HS4
            go_wp2_with fail
            refine (sn_write HS5.out.1 (Lib.decDigits (acc * 128 + m)) HR5.out (by have := dec_le HLIM.out.2.2; have := HOUT.out; simp; omega)).mono ?_
            rintro e w6 ⟨rfl, v6, hs1, hn1, hc1⟩
            have HS6 := Lib.hid (And.intro hs1 (HS5.out.2.bd HS5.out.1 hn1 hc1))
            clear hs1 hn1 hc1 HS5
            go_wp2_with fail
            go_roundg (l.length - (i + 1))
            case measure => omega
            case rel =>
              have hb : Big W w6 r5 v6 0 (.int .u64 0) (.pointer (some ⟨g, 0, none⟩)) (.bool false) := .inr ⟨rfl, rfl, by omega, HS6.out.2.idle⟩
              exact ⟨i + 1, (i + 1), 0, r5, cap5, v6, ((out ++ [46]) ++ (Lib.decDigits (acc * 128 + m))), by omega, rfl, by go_num, by go_num, rfl, (END HS6.out.1), hb⟩
          · by_cases hsafe : acc < 144115188075855872
            · have hs1 : ¬ (144115188075855871 < (acc : Int)) := by omega
              have hor := or7 hsafe hm128
              obtain ⟨V, hV⟩ : ∃ V, V = acc * 128 + m := ⟨_, rfl⟩
              rw [← hV] at hor
              have hV64 : V < 18446744073709551616 := by omega
              have HV := Lib.hid hV
              have HS0 := Lib.hid (And.intro HL.out.sn h7)
              clear h7 hV
              go_wp2_with fail
              refine (sn_dot HS0.out.1 (by have := HOUT.out; omega)).mono ?_
              rintro e w1 ⟨rfl, v1, hs1, hn1, hc1⟩
              have HS1 := Lib.hid (And.intro hs1 (HS0.out.2.bd HS0.out.1 hc1))
              clear hs1 hn1 hc1 HS0
              go_wp2_with fail
              refine (sn_uint HS1.out.1 V (by omega) HTAB.out).mono ?_
              rintro e w2 ⟨rfl, ho1, hs1, hc1⟩
              have HS2 := Lib.hid (And.intro hs1 (HS1.out.2.num HS1.out.1 hc1))
              have HR2 := Lib.hid ho1
              clear hs1 hc1 ho1 HS1
              go_wp2_with fail
              refine (sn_write HS2.out.1 (Lib.decDigits V) HR2.out (by have := dec_le (n := V) (by rw [HV.out]; exact HLIM.out.2.2); have := HOUT.out; simp; omega)).mono ?_
              rintro e w3 ⟨rfl, v3, hs1, hn1, hc1⟩
              have HS3 := Lib.hid (And.intro hs1 (HS2.out.2.bd HS2.out.1 hc1))
              clear hs1 hn1 hc1 HS2
              go_wp2_with fail
              go_roundg (l.length - (i + 1))
              case measure => omega
              case rel =>
                have hb : Big W w3 r v3 0 (.int .u64 0) _ (.bool false) := .inr ⟨rfl, rfl, by omega, HS3.out.2⟩
                exact ⟨i + 1, (i + 1), 0, r, cap, v3, _, by omega, rfl, by go_num, by go_num, rfl, (END (by rw [← HV.out]; exact HS3.out.1)), hb⟩
            · have hs1 : 144115188075855871 < (acc : Int) := by omega
              rcases h7 with rfl | ⟨g, x0, y0, rfl, hg0, hgb⟩
              · have HS0 := Lib.hid (And.intro HL.out.sn True.intro)
                go_wp2_with fail
                refine (sn_dot HS0.out.1 (by have := HOUT.out; omega)).mono ?_
                rintro e w1 ⟨rfl, v1, hs1, hn1, hc1⟩
                have HS1 := Lib.hid (And.intro hs1 True.intro)
                clear hs1 hn1 hc1 HS0
                go_wp2_with fail
                refine (bg_set (HS1.out.1.step_new ((Below.refl _ _).alloc (Nat.le_refl _) _)) (Nat.le_of_lt HS1.out.1.sb_lt) (heap_alloc_new _ _) acc hacc).mono ?_
                rintro e w2 ⟨rfl, hs1, hg1⟩
                have HS2 := Lib.hid (And.intro hs1 hg1)
                clear hs1 hg1 HS1
                go_wp2_with fail
                refine (bg_lsh HS2.out.1 HS2.out.2 HLIM.out.1).mono ?_
                rintro e w3 ⟨rfl, hs1, hg1⟩
                have HS3 := Lib.hid (And.intro hs1 hg1)
                clear hs1 hg1 HS2
                go_wp2_with fail
                refine (bg_new HS3.out.1 HS3.out.2 m (by omega)).mono ?_
                rintro e w4 ⟨z4, T4, rfl, hs1, hg1, hz1⟩
                have HS4 := Lib.hid (And.intro hs1 (And.intro hg1 hz1))
                clear hs1 hg1 hz1 HS3
                go_wp2_with fail
                refine (bg_or HS4.out.1 HS4.out.2.1 (by omega) HLIM.out.2.1 (by omega) hm128 HS4.out.2.2).mono ?_
                rintro e w5 ⟨rfl, hs1, hg1⟩
                have HS5 := Lib.hid (And.intro hs1 hg1)
                clear hs1 hg1 HS4
                go_wp2_with fail
                refine (bg_append HS5.out.1 HS5.out.2 (by omega) HLIM.out.2.2).mono ?_
                rintro e w6 ⟨r6, cap6, rfl, ho1, hs1, hg1⟩
                have HS6 := Lib.hid (And.intro hs1 hg1)
                have HR6 := Lib.hid ho1
                clear hs1 hg1 ho1 HS5
                go_wp2_with fail
                refine (sn_write HS6.out.1 (Lib.decDigits (acc * 128 + m)) HR6.out (by have := dec_le HLIM.out.2.2; have := HOUT.out; simp; omega)).mono ?_
                rintro e w7 ⟨rfl, v7, hs1, hn1, hc1⟩
                have HS7 := Lib.hid (And.intro hs1 (HS6.out.2.bd HS6.out.1 hn1 hc1))
                clear hs1 hn1 hc1 HS6
                go_wp2_with fail
                go_roundg (l.length - (i + 1))
                case measure => omega
                case rel =>
                  have hb : Big W w7 r6 v7 0 (.int .u64 0) (.pointer (some ⟨w1.heap.size, 0, none⟩)) (.bool false) := .inr ⟨rfl, rfl, by omega, HS7.out.2.idle⟩
                  exact ⟨i + 1, (i + 1), 0, r6, cap6, v7, ((out ++ [46]) ++ (Lib.decDigits (acc * 128 + m))), by omega, rfl, by go_num, by go_num, rfl, (END HS7.out.1), hb⟩
              · have HS0 := Lib.hid (And.intro HL.out.sn (And.intro hg0 hgb))
                clear hg0 hgb
                go_wp2_with fail
                refine (sn_dot HS0.out.1 (by have := HOUT.out; omega)).mono ?_
                rintro e w1 ⟨rfl, v1, hs1, hn1, hc1⟩
                have HS1 := Lib.hid (And.intro hs1 (And.intro HS0.out.2.1 (HS0.out.1.blk_bd HS0.out.2.2 hc1)))
                clear hs1 hn1 hc1 HS0
                go_wp2_with fail
                refine (bg_set HS1.out.1 HS1.out.2.1 HS1.out.2.2 acc hacc).mono ?_
                rintro e w2 ⟨rfl, hs1, hg1⟩
                have HS2 := Lib.hid (And.intro hs1 hg1)
                clear hs1 hg1 HS1
                go_wp2_with fail
                refine (bg_lsh HS2.out.1 HS2.out.2 HLIM.out.1).mono ?_
                rintro e w3 ⟨rfl, hs1, hg1⟩
                have HS3 := Lib.hid (And.intro hs1 hg1)
                clear hs1 hg1 HS2
                go_wp2_with fail
                refine (bg_new HS3.out.1 HS3.out.2 m (by omega)).mono ?_
                rintro e w4 ⟨z4, T4, rfl, hs1, hg1, hz1⟩
                have HS4 := Lib.hid (And.intro hs1 (And.intro hg1 hz1))
                clear hs1 hg1 hz1 HS3
                go_wp2_with fail
                refine (bg_or HS4.out.1 HS4.out.2.1 (by omega) HLIM.out.2.1 (by omega) hm128 HS4.out.2.2).mono ?_
                rintro e w5 ⟨rfl, hs1, hg1⟩
                have HS5 := Lib.hid (And.intro hs1 hg1)
                clear hs1 hg1 HS4
                go_wp2_with fail
                refine (bg_append HS5.out.1 HS5.out.2 (by omega) HLIM.out.2.2).mono ?_
                rintro e w6 ⟨r6, cap6, rfl, ho1, hs1, hg1⟩
                have HS6 := Lib.hid (And.intro hs1 hg1)
                have HR6 := Lib.hid ho1
                clear hs1 hg1 ho1 HS5
                go_wp2_with fail
                refine (sn_write HS6.out.1 (Lib.decDigits (acc * 128 + m)) HR6.out (by have := dec_le HLIM.out.2.2; have := HOUT.out; simp; omega)).mono ?_
                rintro e w7 ⟨rfl, v7, hs1, hn1, hc1⟩
                have HS7 := Lib.hid (And.intro hs1 (HS6.out.2.bd HS6.out.1 hn1 hc1))
                clear hs1 hn1 hc1 HS6
                go_wp2_with fail
                go_roundg (l.length - (i + 1))
                case measure => omega
                case rel =>
                  have hb : Big W w7 r6 v7 0 (.int .u64 0) (.pointer (some ⟨g, 0, none⟩)) (.bool false) := .inr ⟨rfl, rfl, by omega, HS7.out.2.idle⟩
                  exact ⟨i + 1, (i + 1), 0, r6, cap6, v7, ((out ++ [46]) ++ (Lib.decDigits (acc * 128 + m))), by omega, rfl, by go_num, by go_num, rfl, (END HS7.out.1), hb⟩
      · have hend1 := hend
        rw [if_neg hend] at h128
        obtain ⟨hd, ha, hlim0, hlim1, hlim2, hout⟩ := hL.next hin hl hx
        rw [← hn] at hlim2
        obtain ⟨m, hm⟩ : ∃ m, m = n % 128 := ⟨_, rfl⟩
        rw [← hm] at h127 hlim2
        have hm128 : m < 128 := by omega
        have HM := Lib.hid hm
        have HL := Lib.hid hL
        have HE := Lib.hid hend
        have HOUT := Lib.hid hout
        have HLIM := Lib.hid (And.intro hlim0 (And.intro hlim1 hlim2))
        have HX := Lib.hid (And.intro hx hn)
        have hz : ((128 : Int) == 0) = false := by decide
        clear hd ha hlim0 hlim1 hlim2 hout hm hL hend hx hn
        clear hend1
        have END : ∀ {w1 r1 cap1}, Sn W w1 r1 cap1 v out → Lp W w1 l (i + 1) st (acc * 128 + m) r1 cap1 v out := fun hs => by
          have := HL.out.more hin hl HX.out.1 (by rw [← HX.out.2]; exact HE.out) hs
          rw [← HX.out.2, ← HM.out] at this
          exact this
        rcases hB with ⟨rfl, ⟨g, rfl, hg⟩, hacc, u, rfl⟩ | ⟨rfl, rfl, hacc, h7⟩
        · have HS0 := Lib.hid (And.intro HL.out.sn hg)
          clear hg
          go_wp2_with fail
          refine (bg_lsh HS0.out.1 HS0.out.2 HLIM.out.1).mono ?_
          rintro e w1 ⟨rfl, hs1, hg1⟩
          have HS1 := Lib.hid (And.intro hs1 hg1)
          clear hs1 hg1 HS0
          go_wp2_with fail
          refine (bg_new HS1.out.1 HS1.out.2 m (by omega)).mono ?_
          rintro e w2 ⟨z2, T2, rfl, hs1, hg1, hz1⟩
          have HS2 := Lib.hid (And.intro hs1 (And.intro hg1 hz1))
          clear hs1 hg1 hz1 HS1
          go_wp2_with fail
          refine (bg_or HS2.out.1 HS2.out.2.1 (by omega) HLIM.out.2.1 (by omega) hm128 HS2.out.2.2).mono ?_
          rintro e w3 ⟨rfl, hs1, hg1⟩
          have HS3 := Lib.hid (And.intro hs1 hg1)
          clear hs1 hg1 HS2
          go_wp2_with fail
          go_roundg (l.length - (i + 1))
          case measure => omega
          case rel =>
            have hb : Big W w3 r v (acc * 128 + m) (.int .u64 u) (.pointer (some ⟨g, 0, none⟩)) (.bool true) := .inl ⟨rfl, ⟨_, rfl, HS3.out.2⟩, by omega, _, rfl⟩
            exact ⟨i + 1, st, (acc * 128 + m), r, cap, v, out, by omega, rfl, by go_num, rfl, rfl, END HS3.out.1, hb⟩
        · by_cases hsafe : acc < 144115188075855872
          · have hs1 : ¬ (144115188075855871 < (acc : Int)) := by omega
            have hor := or7 hsafe hm128
            obtain ⟨V, hV⟩ : ∃ V, V = acc * 128 + m := ⟨_, rfl⟩
            rw [← hV] at hor
            have hV64 : V < 18446744073709551616 := by omega
            have HV := Lib.hid hV
            have HS0 := Lib.hid (And.intro HL.out.sn h7)
            clear h7 hV
            go_wp2_with fail
            go_roundg (l.length - (i + 1))
            case measure => omega
            case rel =>
              have hb : Big W wr r v (acc * 128 + m) (.int .u64 V) _ (.bool false) := .inr ⟨rfl, by rw [HV.out], by omega, HS0.out.2⟩
              exact ⟨i + 1, st, (acc * 128 + m), r, cap, v, out, by omega, rfl, by go_num, rfl, rfl, END HS0.out.1, hb⟩
          · have hs1 : 144115188075855871 < (acc : Int) := by omega
            rcases h7 with rfl | ⟨g, x0, y0, rfl, hg0, hgb⟩
            · have HS0 := Lib.hid (And.intro HL.out.sn True.intro)
              go_wp2_with fail
              refine (bg_set (HS0.out.1.step_new ((Below.refl _ _).alloc (Nat.le_refl _) _)) (Nat.le_of_lt HS0.out.1.sb_lt) (heap_alloc_new _ _) acc hacc).mono ?_
              rintro e w1 ⟨rfl, hs1, hg1⟩
              have HS1 := Lib.hid (And.intro hs1 hg1)
              clear hs1 hg1 HS0
              go_wp2_with fail
              refine (bg_lsh HS1.out.1 HS1.out.2 HLIM.out.1).mono ?_
              rintro e w2 ⟨rfl, hs1, hg1⟩
              have HS2 := Lib.hid (And.intro hs1 hg1)
              clear hs1 hg1 HS1
              go_wp2_with fail
              refine (bg_new HS2.out.1 HS2.out.2 m (by omega)).mono ?_
              rintro e w3 ⟨z3, T3, rfl, hs1, hg1, hz1⟩
              have HS3 := Lib.hid (And.intro hs1 (And.intro hg1 hz1))
              clear hs1 hg1 hz1 HS2
              go_wp2_with fail
              refine (bg_or HS3.out.1 HS3.out.2.1 (by omega) HLIM.out.2.1 (by omega) hm128 HS3.out.2.2).mono ?_
              rintro e w4 ⟨rfl, hs1, hg1⟩
              have HS4 := Lib.hid (And.intro hs1 hg1)
              clear hs1 hg1 HS3
              go_wp2_with fail
              go_roundg (l.length - (i + 1))
              case measure => omega
              case rel =>
                have hb : Big W w4 r v (acc * 128 + m) (.int .u64 acc) (.pointer (some ⟨wr.heap.size, 0, none⟩)) (.bool true) := .inl ⟨rfl, ⟨_, rfl, HS4.out.2⟩, by omega, _, rfl⟩
                exact ⟨i + 1, st, (acc * 128 + m), r, cap, v, out, by omega, rfl, by go_num, rfl, rfl, END HS4.out.1, hb⟩
            · have HS0 := Lib.hid (And.intro HL.out.sn (And.intro hg0 hgb))
              clear hg0 hgb
              go_wp2_with fail
              refine (bg_set HS0.out.1 HS0.out.2.1 HS0.out.2.2 acc hacc).mono ?_
              rintro e w1 ⟨rfl, hs1, hg1⟩
              have HS1 := Lib.hid (And.intro hs1 hg1)
              clear hs1 hg1 HS0
              go_wp2_with fail
              refine (bg_lsh HS1.out.1 HS1.out.2 HLIM.out.1).mono ?_
              rintro e w2 ⟨rfl, hs1, hg1⟩
              have HS2 := Lib.hid (And.intro hs1 hg1)
              clear hs1 hg1 HS1
              go_wp2_with fail
              refine (bg_new HS2.out.1 HS2.out.2 m (by omega)).mono ?_
              rintro e w3 ⟨z3, T3, rfl, hs1, hg1, hz1⟩
              have HS3 := Lib.hid (And.intro hs1 (And.intro hg1 hz1))
              clear hs1 hg1 hz1 HS2
              go_wp2_with fail
              refine (bg_or HS3.out.1 HS3.out.2.1 (by omega) HLIM.out.2.1 (by omega) hm128 HS3.out.2.2).mono ?_
              rintro e w4 ⟨rfl, hs1, hg1⟩
              have HS4 := Lib.hid (And.intro hs1 hg1)
              clear hs1 hg1 HS3
              go_wp2_with fail
              go_roundg (l.length - (i + 1))
              case measure => omega
              case rel =>
                have hb : Big W w4 r v (acc * 128 + m) (.int .u64 acc) (.pointer (some ⟨g, 0, none⟩)) (.bool true) := .inl ⟨rfl, ⟨_, rfl, HS4.out.2⟩, by omega, _, rfl⟩
                exact ⟨i + 1, st, (acc * 128 + m), r, cap, v, out, by omega, rfl, by go_num, rfl, rfl, END HS4.out.1, hb⟩
    · obtain rfl : i = l.length := by omega
      have hval := hL.val
      rw [List.drop_length, oidGo] at hval
      have HV := Lib.hid hval
      have hbd : Lib.IsBuilderF 59 5 W.heap.size W.heap.size (Lib.byteCells out) wr := by
        obtain ⟨⟨p, hp, hb⟩, ho⟩ := hL.sn.bd
        have ho' : wr.ownsRow W.heap.size 5 1 v (Lib.byteCells out).length (Lib.byteCells out) := by rw [Lib.byteCells_length]; exact ho
        rcases hp with rfl | rfl
        · exact .inl (.of ⟨Nat.le_refl _, v, hb, ho', hL.sn.v_ne⟩)
        · exact .inr (.of ⟨Nat.le_refl _, v, hb, ho', hL.sn.v_ne⟩)
      have HBE := Lib.hid hL.sn.be
      have HBD := Lib.hid hbd
      clear hL hB hval hbd hmk hW3 HS
      go_wp2_with fail
      refine (Tryd.Builder_String_any_k W.heap.size W.heap.size out wr HBD.out HBE.out.size).mono ?_
      rintro e w1 ⟨rfl, _, hB1, _⟩
      have HB1 := Lib.hid (HBE.out.trans hB1)
      clear hB1
      go_wp2
      go_ret
      exact ⟨by rw [HV.out]; rfl, by rw [HWS0.out]; exact HWB.out _ HB1.out⟩
end Go.Proofs.YtiopgkdldkkonaaDoor

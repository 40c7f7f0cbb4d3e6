/-
  WALKS: Add, Cmp, Mul by 40 of whole numbers.
  WALKS: Cmp of whole numbers; the product by 40.
  WALKS: BitLen, base128BigIntLength, Rsh of whole numbers.
  WALK: Mul of a whole number by 40.
  WALK: Bits of a whole number: its first word.
-/
import Derived.Test.YtiopgkdldkkonaaDoorZX1
import Derived.Test.YtiopgkdldkkonaaDoorZNat4
import Derived.LaidEqlPtr
import Derived.Deep.RegionHeld3
import Derived.Deep.DrawnRows
namespace Go.Proofs.YtiopgkdldkkonaaDoor
open Go.RowKit Go.Proofs.YtiopgkdldkkonaaDoorW.PrintWords Go.Proofs.YtiopgkdldkkonaaDoor.Num Go.Proofs.YtiopgkdldkkonaaDoor.Pn
set_option linter.unusedVariables false
set_option linter.unusedSimpArgs false

theorem add_any (m n : Nat) (hm : m < lim) (hn : n < lim) (v u : Value) (S T : Nat → Prop) (w : World) (h : Nt w v m S) (k : Nt w u n T) :
    Calls Tryd.prog 61 #[v, u] w fun e w' => ∃ v, e = .returned v ∧ Nt w' v (m + n) (fun k => w.heap.size ≤ k) ∧ Below w.heap.size w w' := by
  obtain ⟨A, c, rfl, hl, hC⟩ := h.form
  obtain ⟨A', c', rfl, hl', hC'⟩ := k.form
  have h1 := len_lim hm
  have h2 := len_lim hn
  by_cases hc : (dg n).length ≤ (dg m).length
  · exact (smallbig_nat_add.calls_ge 3000 A c (dg m) A' c' (dg n) (dg (m + n)) w hC hl hC' hl' hc (add_f hc (by omega) (by omega))).mono fun _ _ ⟨v, he, h1, h2⟩ => ⟨v, he, Nt.of h1, h2⟩
  · have e : m + n = n + m := Nat.add_comm m n
    rw [e]
    exact (smallbig_nat_add.calls_lt 3000 A' c' (dg n) A c (dg m) (dg (n + m)) w hC' hl' hC hl (by omega) (add_f (by omega) (by omega) (by omega))).mono fun _ _ ⟨v, he, h1, h2⟩ => ⟨v, he, Nt.of h1, h2⟩

set_option maxHeartbeats 4000000 in
set_option maxRecDepth 100000 in
theorem sum_add (b bx m n : Nat) (hm : m < lim) (hn : n < lim) (u : Value) (S T : Nat → Prop) (x y : Value) (w : World) (hb : w.heap[b]? = some (.cells #[x, y] 66 (0, 0))) (hx : It w bx m S) (hu : Nt w u n T) :
    Calls Tryd.prog 46 #[.pointer (some ⟨b, 0, none⟩), .pointer (some ⟨bx, 0, none⟩), u, .bool false] w fun e w' => e = .returned (.pointer (some ⟨b, 0, none⟩)) ∧ ItPost w b (m + n) w' := by
  obtain ⟨v0, hx0, hxN⟩ := hx
  obtain ⟨A0, c0_, rfl, hq1, hq2⟩ := hxN.form
  clear hq1 hq2
  obtain ⟨A2, c2_, rfl, hq1, hq2⟩ := hu.form
  clear hq1 hq2
  have HB := Lib.hid hb
  have HX := Lib.hid hx0
  have HXN := Lib.hid hxN
  have HU := Lib.hid hu
  obtain ⟨d0, d1, _, _⟩ := it_cells hx0
  clear hb hx0 hxN hu
  go_enter Tryd.func46, Tryd.ntmps46
  go_wp2_with fail
  refine (cmp_any m n hm _ _ S T w HXN.out HU.out).mono ?_
  rintro e w1 ⟨rfl, hD⟩
  obtain ⟨⟨k, rfl⟩⟩ := hD
  generalize cmpN m n = c
  go_wp2
  go_region_with (go_at_call 61; refine (add_any m n hm hn _ _ S T _ ?_ ?_).mono ?_; exact Kd.V_drewN HXN.out _; exact Kd.V_drewN HU.out _; rintro e w1 ⟨v, rfl, hN, hB⟩; obtain ⟨A1, c1_, rfl, hq1, hq2⟩ := hN.form; clear hq1 hq2; obtain ⟨c0, c1, f0, f1⟩ := it_cells ((hB.block b (blk_lt HB.out)).trans HB.out); obtain ⟨d0', d1', _, _⟩ := it_cells ((hB.block bx (blk_lt HX.out)).trans HX.out); have HP := Lib.hid (it_put (w := w.drewN (k + 1)) HB.out hN hB); clear hN hB)
  all_goals go_wp2
  all_goals (go_ret; refine ⟨rfl, ?_⟩; first | exact (HP.out.1.of_drewN).set0 (blk_lt HB.out) | exact (HP.out.2.of_drewN).set0 (blk_lt HB.out))

set_option maxHeartbeats 1000000 in
set_option maxRecDepth 100000 in
theorem add_int (b bx bz m n : Nat) (hm : m < lim) (hn : n < lim) (S T : Nat → Prop) (x y : Value) (w : World) (hb : w.heap[b]? = some (.cells #[x, y] 66 (0, 0))) (hx : It w bx m S) (hy : It w bz n T) :
    Calls Tryd.prog 53 #[.pointer (some ⟨b, 0, none⟩), .pointer (some ⟨bx, 0, none⟩), .pointer (some ⟨bz, 0, none⟩)] w fun e w' => e = .returned (.pointer (some ⟨b, 0, none⟩)) ∧ ItPost w b (m + n) w' := by
  obtain ⟨v0, hy0, hyN⟩ := hy
  obtain ⟨A0, c0_, rfl, hq1, hq2⟩ := hyN.form
  clear hq1 hq2
  obtain ⟨d0, d1, _, _⟩ := it_cells hy0
  have HB := Lib.hid hb
  have HX := Lib.hid hx
  have HY := Lib.hid hyN
  clear hb hx hy0 hyN
  go_enter Tryd.func53, Tryd.ntmps53
  go_wp2
  go_region_with (go_at_call 46; refine (sum_add b bx m n hm hn _ S T x y w.drew HB.out ?_ ?_).mono ?_; (obtain ⟨v1, h1, h2⟩ := HX.out; exact ⟨v1, h1, Kd.V_drew h2⟩); exact Kd.V_drew HY.out; rintro e w1 ⟨rfl, hP⟩; have HP := Lib.hid hP; clear hP)
  all_goals (go_wp2; go_ret; exact ⟨rfl, HP.out.of_drew⟩)
end Go.Proofs.YtiopgkdldkkonaaDoor
namespace Go.Proofs.YtiopgkdldkkonaaDoor
open Go.RowKit Go.Proofs.YtiopgkdldkkonaaDoorW.PrintWords Go.Proofs.YtiopgkdldkkonaaDoor.Num Go.Proofs.YtiopgkdldkkonaaDoor.Pn
set_option linter.unusedVariables false
set_option linter.unusedSimpArgs false

theorem info66 : ((Tryd.prog.info? 66).map (·.size)) = some 2 := by kernel_rfl

set_option maxHeartbeats 4000000 in
set_option maxRecDepth 100000 in
theorem cmp_int (bx bz m n : Nat) (hne : bx ≠ bz) (hm : m < lim) (S T : Nat → Prop) (w : World) (hx : It w bx m S) (hy : It w bz n T) :
    Calls Tryd.prog 51 #[.pointer (some ⟨bx, 0, none⟩), .pointer (some ⟨bz, 0, none⟩)] w fun e w' => e = .returned (.int .i64 (cmpN m n)) ∧ Drawn0 w w' := by
  obtain ⟨v0, hx0, hxN⟩ := hx
  obtain ⟨A0, c0_, rfl, hq1, hq2⟩ := hxN.form
  clear hq1 hq2
  obtain ⟨v2, hy0, hyN⟩ := hy
  obtain ⟨A2, c2_, rfl, hq1, hq2⟩ := hyN.form
  clear hq1 hq2
  have HX := Lib.hid hxN
  have HY := Lib.hid hyN
  obtain ⟨d0, d1, _, _⟩ := it_cells hx0
  obtain ⟨d2, d3, _, _⟩ := it_cells hy0
  obtain ⟨j, hj, hjs⟩ := Option.map_eq_some_iff.1 info66
  have hpe := run_eql_ptr_other (P := Tryd.prog) (w := w) (tp := 61) (a := ⟨bx, 0, none⟩) (b := ⟨bz, 0, none⟩) Tryd.underlying61 hj (by rw [hjs]; decide) (by intro e; injection e with e; exact hne e) hx0 hy0
  clear hx0 hxN hy0 hyN hj hjs
  go_enter Tryd.func51, Tryd.ntmps51
  go_wp2_with fail
  go_quiet (fail)
  go_wp2_with fail
  go_quiet (fail)
  go_wp2_with fail
  go_region_with (go_at_call 60; refine (cmp_any m n hm _ _ S T _ ?_ ?_).mono ?_; exact Kd.V_drewN HX.out _; exact Kd.V_drewN HY.out _; rintro e w1 ⟨rfl, hD⟩; have HD := Lib.hid hD; clear hD)
  all_goals (go_wp2; go_ret; refine ⟨rfl, ?_⟩; obtain ⟨⟨q, hq⟩⟩ := HD.out; rw [hq]; exact ⟨_, by simp only [World.drewN_drewN]; rfl⟩)

theorem mul0 : smallbig_nat_mul.f 20 [] [40] = some [] := by kernel_rfl
theorem mul1 : smallbig_nat_mul.f 20 [1] [40] = some [40] := by kernel_rfl
theorem mul2 : smallbig_nat_mul.f 20 [2] [40] = some [80] := by kernel_rfl
theorem dg_one {c : Nat} (hc : c < 128) (h0 : c ≠ 0) : dg c = [(c : Int)] := dg_small hc h0
theorem mul40_f {m : Nat} (hm : m ≤ 2) : smallbig_nat_mul.f 20 (dg m) (dg 40) = some (dg (m * 40)) := by
  rw [dg_one (c := 40) (by omega) (by omega)]
  have hcase : m = 0 ∨ m = 1 ∨ m = 2 := by omega
  rcases hcase with rfl | rfl | rfl
  · rw [Nat.zero_mul, dg_zero]; exact mul0
  · rw [dg_one (c := 1) (by omega) (by omega), Nat.one_mul, dg_one (c := 40) (by omega) (by omega)]; exact mul1
  · rw [dg_one (c := 2) (by omega) (by omega), show 2 * 40 = 80 from rfl, dg_one (c := 80) (by omega) (by omega)]; exact mul2
theorem mul40_any (m : Nat) (hm : m ≤ 2) (v u : Value) (S T : Nat → Prop) (w : World) (h : Nt w v m S) (k : Nt w u 40 T) :
    Calls Tryd.prog 70 #[v, u] w fun e w' => ∃ v, e = .returned v ∧ Nt w' v (m * 40) (fun k => w.heap.size ≤ k) ∧ Below w.heap.size w w' := by
  obtain ⟨A, c, rfl, hl, hC⟩ := h.form
  obtain ⟨A', c', rfl, hl', hC'⟩ := k.form
  exact (smallbig_nat_mul.calls 20 A c (dg m) A' c' (dg 40) _ w hC hl hC' hl' (mul40_f hm)).mono fun _ _ ⟨v, he, h1, h2⟩ => ⟨v, he, Nt.of h1, h2⟩

end Go.Proofs.YtiopgkdldkkonaaDoor
namespace Go.Proofs.YtiopgkdldkkonaaDoor
open Go.RowKit Go.Proofs.YtiopgkdldkkonaaDoorW.PrintWords Go.Proofs.YtiopgkdldkkonaaDoor.Num Go.Proofs.YtiopgkdldkkonaaDoor.Pn
set_option linter.unusedVariables false
set_option linter.unusedSimpArgs false

theorem rsh_any (n s : Nat) (hn : n < lim) (hs : s < 1000000) (v : Value) (S : Nat → Prop) (w : World) (h : Nt w v n S) :
    Calls Tryd.prog 82 #[v, .int .u64 s] w fun e w' => ∃ v, e = .returned v ∧ Nt w' v (n / 2 ^ s) (fun k => w.heap.size ≤ k) ∧ Below w.heap.size w w' := by
  obtain ⟨A, c, rfl, hl, hC⟩ := h.form
  have := len_lim hn
  exact (smallbig_nat_rsh.calls 3000 A c (dg n) s (dg (n / 2 ^ s)) w hC hl (rsh_f n s hs (by omega) (by omega))).mono fun _ _ ⟨v, he, h1, h2⟩ => ⟨v, he, Nt.of h1, h2⟩

set_option maxHeartbeats 1000000 in
set_option maxRecDepth 100000 in
theorem rsh_int (b bx n s : Nat) (hn : n < lim) (hs : s < 1000000) (S : Nat → Prop) (x y : Value) (w : World) (hb : w.heap[b]? = some (.cells #[x, y] 66 (0, 0))) (hx : It w bx n S) :
    Calls Tryd.prog 72 #[.pointer (some ⟨b, 0, none⟩), .pointer (some ⟨bx, 0, none⟩), .int .u64 s] w fun e w' => e = .returned (.pointer (some ⟨b, 0, none⟩)) ∧ ItPost w b (n / 2 ^ s) w' := by
  obtain ⟨v0, hx0, hxN⟩ := hx
  obtain ⟨A0, c0_, rfl, hq1, hq2⟩ := hxN.form
  clear hq1 hq2
  have HB := Lib.hid hb
  have HXN := Lib.hid hxN
  obtain ⟨d0, d1, _, _⟩ := it_cells hx0
  clear hb hx0 hxN
  go_enter Tryd.func72, Tryd.ntmps72
  go_wp2_with fail
  refine (rsh_any n s hn hs _ S w HXN.out).mono ?_
  rintro e w1 ⟨v, rfl, hN, hB⟩
  obtain ⟨A1, c1_, rfl, hq1, hq2⟩ := hN.form
  clear hq1 hq2
  have HP := Lib.hid (it_put HB.out hN hB)
  obtain ⟨c0, c1, f0, f1⟩ := it_cells ((hB.block b (blk_lt HB.out)).trans HB.out)
  clear hN hB
  go_wp2
  go_ret
  exact ⟨rfl, HP.out.1⟩

theorem bitLen_any (n : Nat) (hn : n < lim) (v : Value) (S : Nat → Prop) (w : World) (h : Nt w v n S) :
    Calls Tryd.prog 87 #[v] w fun e w' => e = .returned (.int .i64 (bl n)) ∧ Drawn0 w w' := by
  obtain ⟨A, c, rfl, hl, hC⟩ := h.form
  have := len_lim hn
  obtain ⟨k, hk⟩ := (bitLen_f n (by omega)).rounds
  exact smallbig_nat_bitLen.calls k A c (dg n) (bl n) w hC hl hk

set_option maxHeartbeats 1000000 in
set_option maxRecDepth 100000 in
theorem bitLen_int (bx n : Nat) (hn : n < lim) (S : Nat → Prop) (w : World) (hx : It w bx n S) :
    Calls Tryd.prog 81 #[.pointer (some ⟨bx, 0, none⟩)] w fun e w' => e = .returned (.int .i64 (bl n)) ∧ Drawn0 w w' := by
  obtain ⟨v0, hx0, hxN⟩ := hx
  obtain ⟨A0, c0_, rfl, hq1, hq2⟩ := hxN.form
  clear hq1 hq2
  have HXN := Lib.hid hxN
  obtain ⟨d0, d1, _, _⟩ := it_cells hx0
  clear hx0 hxN
  go_enter Tryd.func81, Tryd.ntmps81
  go_wp2_with fail
  refine (bitLen_any n hn _ S w HXN.out).mono ?_
  rintro e w1 ⟨rfl, hD⟩
  have HD := Lib.hid hD
  clear hD
  go_wp2
  go_ret
  exact ⟨rfl, HD.out⟩

theorem pow_pow2 (a b c : Nat) : (a ^ b) ^ c = a ^ (b * c) := (Nat.pow_mul a b c).symm
theorem bl_lim {n : Nat} (hn : n < lim) : bl n ≤ 32 * 200 := by
  have h1 : lim = (2 ^ 32) ^ 200 := rfl
  rw [h1, pow_pow2] at hn
  exact bl_le hn
theorem It.step {w w1 : World} {b n : Nat} {S : Nat → Prop} (h : It w b n S) (hb : Below w.heap.size w w1) : It w1 b n (fun k => S k ∧ k < w.heap.size) := by
  obtain ⟨v, h1, h2⟩ := h.bound
  exact ⟨v, (hb.block b (blk_lt h1)).trans h1, h2.step (fun k hk hl => hb.block k hk.2)⟩

set_option maxHeartbeats 1000000 in
set_option maxRecDepth 100000 in
theorem len128_some (bx n : Nat) (h0 : n ≠ 0) (hn : n < lim) (S : Nat → Prop) (w : World) (hx : It w bx n S) :
    Calls Tryd.prog 71 #[.pointer (some ⟨bx, 0, none⟩)] w fun e w' => e = .returned (.int .i64 ((bl n + 6) / 7 : Nat)) ∧ Below w.heap.size w w' := by
  have HX := Lib.hid hx
  have hlt := hx.lt
  have hbl := bl_lim hn
  have hc : cmpN n 0 = 1 := by unfold cmpN; rw [if_neg (by omega), if_neg h0]
  obtain ⟨L, hL⟩ : ∃ L, L = bl n := ⟨_, rfl⟩
  have hdiv : Int.tdiv ((L : Int) + 6) 7 = (((L + 6) / 7 : Nat) : Int) := by
    rw [show (L : Int) + 6 = ((L + 6 : Nat) : Int) from by omega, show (7 : Int) = ((7 : Nat) : Int) from rfl, ← Int.ofNat_tdiv]
  rw [← hL] at hbl ⊢
  have HL := Lib.hid hL
  have HC := Lib.hid hc
  clear hx hL hc
  go_enter Tryd.func71, Tryd.ntmps71
  go_wp2_with fail
  refine (newInt_any 0 (by omega) w).mono ?_
  rintro e w1 ⟨rfl, hI, hB⟩
  have hx1 := HX.out.step hB
  have H1 := Lib.hid (And.intro hx1 (And.intro hI hB))
  clear hx1 hI hB
  go_wp2_with fail
  refine (cmp_int bx w.heap.size n 0 (by omega) hn _ _ w1 H1.out.1 H1.out.2.1).mono ?_
  rintro e w2 ⟨rfl, hD⟩
  rw [HC.out]
  have hx2 := H1.out.1.step hD.below
  have H2 := Lib.hid (And.intro hx2 (H1.out.2.2.trans (hD.below.mono H1.out.2.2.size)))
  clear hx2 hD
  go_wp2_with fail
  refine (bitLen_int bx n hn _ w2 H2.out.1).mono ?_
  rintro e w3 ⟨rfl, hD⟩
  rw [← HL.out]
  have H3 := Lib.hid (H2.out.2.trans (hD.below.mono H2.out.2.size))
  clear hD
  go_wp2
  go_ret
  exact ⟨rfl, H3.out⟩
end Go.Proofs.YtiopgkdldkkonaaDoor
namespace Go.Proofs.YtiopgkdldkkonaaDoor
open Go.RowKit Go.Proofs.YtiopgkdldkkonaaDoorW.PrintWords Go.Proofs.YtiopgkdldkkonaaDoor.Num Go.Proofs.YtiopgkdldkkonaaDoor.Pn
attribute [local go_sem ↓] Go.wp_at_zero Go.wp_at_succ
set_option linter.unusedVariables false
set_option linter.unusedSimpArgs false

set_option maxHeartbeats 4000000 in
set_option maxRecDepth 100000 in
theorem mul40_int (b bz m : Nat) (hne : b ≠ bz) (hm : m ≤ 2) (S T : Nat → Prop) (w : World) (hx : It w b m S) (hy : It w bz 40 T) :
    Calls Tryd.prog 52 #[.pointer (some ⟨b, 0, none⟩), .pointer (some ⟨b, 0, none⟩), .pointer (some ⟨bz, 0, none⟩)] w fun e w' => e = .returned (.pointer (some ⟨b, 0, none⟩)) ∧ ItPost w b (m * 40) w' := by
  obtain ⟨v0, hx0, hxN⟩ := hx
  obtain ⟨A0, c0_, rfl, hq1, hq2⟩ := hxN.form
  clear hq1 hq2
  obtain ⟨v2, hy0, hyN⟩ := hy
  obtain ⟨A2, c2_, rfl, hq1, hq2⟩ := hyN.form
  clear hq1 hq2
  have HXN := Lib.hid hxN
  have HYN := Lib.hid hyN
  have HB := Lib.hid hx0
  have HY := Lib.hid hy0
  obtain ⟨d0, d1, e0, e1⟩ := it_cells hx0
  obtain ⟨d2, d3, _, _⟩ := it_cells hy0
  clear hx0 hxN hy0 hyN
  go_enter Tryd.func52, Tryd.ntmps52
  go_wp2_with fail
  refine wp_region_noPanic ?_
  refine wp_region_held_drew (S := fun w' => w'.cell? ⟨b, 0, none⟩ = some (.bool false) ∧ w'.cell? ⟨bz, 0, none⟩ = some (.bool false) ∧ w'.cell? ⟨bz, 1, none⟩ = some (.slice A2 (dg 40).length c2_)) (by kernel_rfl) ?_ (fun hHeld => ?_)
  · go_keep
  refine wpAnyH_take (i := 0) (v := ?_) rfl (by kernel_rfl) (by kernel_rfl) (by kernel_rfl) (fun _ _ _ h => h) (Or.inl ⟨by rfl, ?_⟩) (by assumption) ?_
  case refine_2 => (intro w hSw; (try dsimp only at hSw); go_simp; try with_reducible rfl)
  try simp only [Act.put, List.setIfInBounds_toArray, List.set_cons_zero, List.set_cons_succ]
  refine wpAnyH_take (i := 1) (v := ?_) rfl (by kernel_rfl) (by kernel_rfl) (by kernel_rfl) (fun _ _ _ h => h) (Or.inl ⟨by rfl, ?_⟩) (by assumption) ?_
  case refine_2 => (intro w hSw; (try dsimp only at hSw); go_simp; try with_reducible rfl)
  try simp only [Act.put, List.setIfInBounds_toArray, List.set_cons_zero, List.set_cons_succ]
  refine wpAnyH_take (i := 2) (v := ?_) rfl (by kernel_rfl) (by kernel_rfl) (by kernel_rfl) (fun _ _ _ h => h) (Or.inl ⟨by rfl, ?_⟩) (by assumption) ?_
  case refine_2 => (intro w hSw; (try dsimp only at hSw); go_simp; try with_reducible rfl)
  try simp only [Act.put, List.setIfInBounds_toArray, List.set_cons_zero, List.set_cons_succ]
  refine wpAnyH_take (i := 3) (v := ?_) rfl (by kernel_rfl) (by kernel_rfl) (by kernel_rfl) (fun _ _ _ h => h) (Or.inl ⟨by rfl, ?_⟩) (by assumption) ?_
  case refine_2 => (intro w hSw; (try dsimp only at hSw); go_simp; try with_reducible rfl)
  try simp only [Act.put, List.setIfInBounds_toArray, List.set_cons_zero, List.set_cons_succ]
  refine wpAnyH_take (i := 4) (v := ?_) rfl (by kernel_rfl) (by kernel_rfl) (by kernel_rfl) (fun _ _ _ h => h) (Or.inl ⟨by rfl, ?_⟩) (by assumption) ?_
  case refine_2 => (intro w hSw; (try dsimp only at hSw); go_simp; try with_reducible rfl)
  try simp only [Act.put, List.setIfInBounds_toArray, List.set_cons_zero, List.set_cons_succ]
  refine wpAnyH_take (i := 6) (v := ?_) rfl (by kernel_rfl) (by kernel_rfl) (by kernel_rfl) (fun _ _ _ h => h) (Or.inl ⟨by rfl, ?_⟩) (by assumption) ?_
  case refine_2 => (intro w hSw; (try dsimp only at hSw); go_simp; try with_reducible rfl)
  try simp only [Act.put, List.setIfInBounds_toArray, List.set_cons_zero, List.set_cons_succ]
  refine wpAnyH_take (i := 7) (v := ?_) rfl (by kernel_rfl) (by kernel_rfl) (by kernel_rfl) (fun _ _ _ h => h) (Or.inl ⟨by rfl, ?_⟩) (by assumption) ?_
  case refine_2 => (intro w hSw; (try dsimp only at hSw); go_simp; try with_reducible rfl)
  try simp only [Act.put, List.setIfInBounds_toArray, List.set_cons_zero, List.set_cons_succ]
  refine wpAnyH_take (i := 8) (v := ?_) rfl (by kernel_rfl) (by kernel_rfl) (by kernel_rfl) (fun _ _ _ h => h) (Or.inl ⟨by rfl, ?_⟩) (by assumption) ?_
  case refine_2 => (intro w hSw; (try dsimp only at hSw); go_simp; try with_reducible rfl)
  try simp only [Act.put, List.setIfInBounds_toArray, List.set_cons_zero, List.set_cons_succ]
  refine wpAnyH_take (i := 9) (v := ?_) rfl (by kernel_rfl) (by kernel_rfl) (by kernel_rfl) (fun _ _ _ h => h) (Or.inl ⟨by rfl, ?_⟩) (by assumption) ?_
  case refine_2 => (intro w hSw; (try dsimp only at hSw); go_simp; try with_reducible rfl)
  try simp only [Act.put, List.setIfInBounds_toArray, List.set_cons_zero, List.set_cons_succ]
  refine wpAnyH_take (i := 11) (v := ?_) rfl (by kernel_rfl) (by kernel_rfl) (by kernel_rfl) (fun _ _ _ h => h) (Or.inl ⟨by rfl, ?_⟩) (by assumption) ?_
  case refine_2 => (intro w hSw; (try dsimp only at hSw); go_simp; try with_reducible rfl)
  try simp only [Act.put, List.setIfInBounds_toArray, List.set_cons_zero, List.set_cons_succ]
  refine wpAnyH_take (i := 12) (v := ?_) rfl (by kernel_rfl) (by kernel_rfl) (by kernel_rfl) (fun _ _ _ h => h) (Or.inl ⟨by rfl, ?_⟩) (by assumption) ?_
  case refine_2 => (intro w hSw; (try dsimp only at hSw); go_simp; try with_reducible rfl)
  try simp only [Act.put, List.setIfInBounds_toArray, List.set_cons_zero, List.set_cons_succ]
  refine wpAnyH_take (i := 13) (v := ?_) rfl (by kernel_rfl) (by kernel_rfl) (by kernel_rfl) (fun _ _ _ h => h) (Or.inl ⟨by rfl, ?_⟩) (by assumption) ?_
  case refine_2 => (intro w hSw; (try dsimp only at hSw); go_simp; try with_reducible rfl)
  try simp only [Act.put, List.setIfInBounds_toArray, List.set_cons_zero, List.set_cons_succ]
  refine wpAnyH_take (i := 14) (v := ?_) rfl (by kernel_rfl) (by kernel_rfl) (by kernel_rfl) (fun _ _ _ h => h) (Or.inl ⟨by rfl, ?_⟩) (by assumption) ?_
  case refine_2 => (intro w hSw; (try dsimp only at hSw); go_simp; try with_reducible rfl)
  try simp only [Act.put, List.setIfInBounds_toArray, List.set_cons_zero, List.set_cons_succ]
  refine wpAnyH_take (i := 15) (v := ?_) rfl (by kernel_rfl) (by kernel_rfl) (by kernel_rfl) (fun _ _ _ h => h) (Or.inl ⟨by rfl, ?_⟩) (by assumption) ?_
  case refine_2 => (intro w hSw; (try dsimp only at hSw); go_simp; try with_reducible rfl)
  try simp only [Act.put, List.setIfInBounds_toArray, List.set_cons_zero, List.set_cons_succ]
  refine wpAnyH_take (i := 16) (v := ?_) rfl (by kernel_rfl) (by kernel_rfl) (by kernel_rfl) (fun _ _ _ h => h) (Or.inl ⟨by rfl, ?_⟩) (by assumption) ?_
  case refine_2 => (intro w hSw; (try dsimp only at hSw); go_simp; try with_reducible rfl)
  try simp only [Act.put, List.setIfInBounds_toArray, List.set_cons_zero, List.set_cons_succ]
  refine wpAnyH_take (i := 17) (v := ?_) rfl (by kernel_rfl) (by kernel_rfl) (by kernel_rfl) (fun _ _ _ h => h) (Or.inl ⟨by rfl, ?_⟩) (by assumption) ?_
  case refine_2 => (intro w hSw; (try dsimp only at hSw); go_simp; try with_reducible rfl)
  try simp only [Act.put, List.setIfInBounds_toArray, List.set_cons_zero, List.set_cons_succ]
  refine wpAnyH_take (i := 18) (v := ?_) rfl (by kernel_rfl) (by kernel_rfl) (by kernel_rfl) (fun _ _ _ h => h) (Or.inl ⟨by rfl, ?_⟩) (by assumption) ?_
  case refine_2 => (intro w hSw; (try dsimp only at hSw); go_simp; try with_reducible rfl)
  try simp only [Act.put, List.setIfInBounds_toArray, List.set_cons_zero, List.set_cons_succ]
  refine wpAnyH_take (i := 19) (v := ?_) rfl (by kernel_rfl) (by kernel_rfl) (by kernel_rfl) (fun _ _ _ h => h) (Or.inl ⟨by rfl, ?_⟩) (by assumption) ?_
  case refine_2 => (intro w hSw; (try dsimp only at hSw); go_simp; try with_reducible rfl)
  try simp only [Act.put, List.setIfInBounds_toArray, List.set_cons_zero, List.set_cons_succ]
  refine wpAnyH_ready (rs := [5]) (by kernel_rfl) (by simp) ?_
  refine AllReadyH.cons rfl (fun K hK => ?_) AllReadyH.nil
  go_simp
  refine hK.out _ _ ?_ (fun hHeld => ?_)
  · go_keep
  clear hK K
  try simp only [Act.put, List.setIfInBounds_toArray, List.set_cons_zero, List.set_cons_succ]
  refine wpAnyH_ready (rs := [10]) (by kernel_rfl) (by simp) ?_
  refine AllReadyH.cons rfl (fun K hK => ?_) AllReadyH.nil
  go_simp
  refine (mul40_any m hm _ _ S T _ (Kd.V_drew HXN.out) (Kd.V_drew HYN.out)).mono ?_
  rintro e w1 ⟨v, rfl, hN, hB⟩
  obtain ⟨A1, c1_, rfl, hq1, hq2⟩ := hN.form
  clear hq1 hq2
  obtain ⟨c0, c1, f0, f1⟩ := it_cells ((hB.block b (blk_lt HB.out)).trans HB.out)
  obtain ⟨d0', d1', _, _⟩ := it_cells ((hB.block bz (blk_lt HY.out)).trans HY.out)
  have HP := Lib.hid (it_put (w := w.drew) HB.out hN hB)
  have hne' : bz ≠ b := Ne.symm hne
  have far : ∀ (v : Value) (o : Nat), (w1.setCell ⟨b, 1, none⟩ v).cell? ⟨bz, o, none⟩ = w1.cell? ⟨bz, o, none⟩ := fun v o => World.cell?_setCell_far _ _ _ _ hne
  have far0 : ∀ (v : Value), (w1.setCell ⟨b, 1, none⟩ v).cell? ⟨b, 0, none⟩ = w1.cell? ⟨b, 0, none⟩ := fun v => World.cell?_setCell_other w1 _ _ v (by simp)
  have far2 : ∀ (v u : Value) (o : Nat), ((w1.setCell ⟨b, 1, none⟩ v).setCell ⟨b, 0, none⟩ u).cell? ⟨bz, o, none⟩ = w1.cell? ⟨bz, o, none⟩ := fun v u o => (World.cell?_setCell_far _ _ _ _ hne).trans (far v o)
  clear hN hB
  go_wp2_with fail
  refine hK.out _ _ ?_ (fun hHeld => ?_)
  · exact ⟨c0, d0', d1'⟩
  clear hK K
  try simp only [Act.put, List.setIfInBounds_toArray, List.set_cons_zero, List.set_cons_succ]
  refine wpAnyH_take (i := 20) (v := ?_) rfl (by kernel_rfl) (by kernel_rfl) (by kernel_rfl) (fun _ _ _ h => h) (Or.inl ⟨by rfl, ?_⟩) (by assumption) ?_
  case refine_2 => (intro w hSw; (try dsimp only at hSw); go_simp; try with_reducible rfl)
  try simp only [Act.put, List.setIfInBounds_toArray, List.set_cons_zero, List.set_cons_succ]
  refine wpAnyH_take (i := 21) (v := ?_) rfl (by kernel_rfl) (by kernel_rfl) (by kernel_rfl) (fun _ _ _ h => h) (Or.inl ⟨by rfl, ?_⟩) (by assumption) ?_
  case refine_2 => (intro w hSw; (try dsimp only at hSw); go_simp; try with_reducible rfl)
  try simp only [Act.put, List.setIfInBounds_toArray, List.set_cons_zero, List.set_cons_succ]
  refine wpAnyH_ready (rs := [22]) (by kernel_rfl) (by simp) ?_
  refine AllReadyH.cons rfl (fun K hK => ?_) AllReadyH.nil
  go_simp
  refine hK.out _ _ ?_ (fun hHeld => ?_)
  · exact ⟨(far0 _).trans c0, (far _ _).trans d0', (far _ _).trans d1'⟩
  clear hK K
  try simp only [Act.put, List.setIfInBounds_toArray, List.set_cons_zero, List.set_cons_succ]
  refine wpAnyH_take (i := 23) (v := ?_) rfl (by kernel_rfl) (by kernel_rfl) (by kernel_rfl) (fun _ _ _ h => h) (Or.inl ⟨by rfl, ?_⟩) (by assumption) ?_
  case refine_2 => (intro w hSw; (try dsimp only at hSw); go_simp; try with_reducible rfl)
  try simp only [Act.put, List.setIfInBounds_toArray, List.set_cons_zero, List.set_cons_succ]
  refine wpAnyH_take (i := 24) (v := ?_) rfl (by kernel_rfl) (by kernel_rfl) (by kernel_rfl) (fun _ _ _ h => h) (Or.inl ⟨by rfl, ?_⟩) (by assumption) ?_
  case refine_2 => (intro w hSw; (try dsimp only at hSw); go_simp; try with_reducible rfl)
  try simp only [Act.put, List.setIfInBounds_toArray, List.set_cons_zero, List.set_cons_succ]
  refine wpAnyH_ready (rs := [25]) (by kernel_rfl) (by simp) ?_
  refine AllReadyH.cons rfl (fun K hK => ?_) AllReadyH.nil
  go_simp
  refine hK.out _ _ ?_ (fun hHeld => ?_)
  · exact ⟨World.cell?_setCell_same _ _ _ ((far0 _).trans c0), (far2 _ _ _).trans d0', (far2 _ _ _).trans d1'⟩
  clear hK K
  try simp only [Act.put, List.setIfInBounds_toArray, List.set_cons_zero, List.set_cons_succ]
  refine wpAnyH_done (by kernel_rfl) ?_ _
  refine NoPanic.normal ?_
  go_wp2
  all_goals (go_ret; refine ⟨rfl, ?_⟩; first | exact (HP.out.1.of_drew).set0 (blk_lt HB.out) | exact (HP.out.2.of_drew).set0 (blk_lt HB.out))
end Go.Proofs.YtiopgkdldkkonaaDoor
namespace Go.Proofs.YtiopgkdldkkonaaDoor
open Go.RowKit Go.Proofs.YtiopgkdldkkonaaDoorW.PrintWords Go.Proofs.YtiopgkdldkkonaaDoor.Num Go.Proofs.YtiopgkdldkkonaaDoor.Pn
set_option linter.unusedVariables false
set_option linter.unusedSimpArgs false

theorem info110 : (Tryd.prog.info? 110).map (fun i => (i.zero, i.size, i.bytes)) = some (some (.int .u64 0), 1, 8) := by kernel_rfl

theorem R_word (w : World) (y : Int) : Kd.R (Kd.int .u64) 110 (w.alloc (.cells #[.int .u64 y] 110)) w.heap.size (fun _ => True) (.slice (some ⟨w.heap.size, 0, none⟩) 1 1) [y] :=
  Kd.R_of_own (enc := Value.int .u64) ⟨by simp [encs], .inr ⟨w.heap.size, 1, #[.int .u64 y], rfl, Nat.le_refl _, heap_alloc_new w _, by simp, by unfold maxLen; omega, by simp, by simp [encs]⟩⟩ (fun _ _ => trivial)
theorem C_word (w : World) (y : Int) : (Kd.int .u64).C (w.alloc (.cells #[.int .u64 y] 110)) (some ⟨w.heap.size, 0, none⟩) 1 [y] := by
  obtain ⟨A, c, hv, hc, hC⟩ := Kd.R_reads (R_word w y)
  injection hv with e1 e2 e3
  subst e1
  exact hC
theorem low64_any (n : Nat) (hn : (dg n).length ≤ 200) (A : Option Addr) (c : Nat) (hc : (dg n).length ≤ c) (w : World) (hC : (Kd.int .u32).C w A (dg n).length (dg n)) :
    Calls Tryd.prog 83 #[.slice A (dg n).length c] w fun e w' => e = .returned (.int .u64 ((n % 18446744073709551616 : Nat) : Int)) ∧ Drawn0 w w' :=
  smallbig_nat_low64.calls 4 A c (dg n) _ w hC hc (low64_f n (by omega) (by omega))

set_option maxHeartbeats 4000000 in
set_option maxRecDepth 100000 in
theorem bits_int (bx n : Nat) (h0 : n ≠ 0) (hn : n < lim) (S : Nat → Prop) (w : World) (hx : It w bx n S) :
    Calls Tryd.prog 73 #[.pointer (some ⟨bx, 0, none⟩)] w fun e w' => ∃ ad c len, e = .returned (.slice (some ad) len c) ∧ 0 < len ∧ w'.cell? ad = some (.int .u64 ((n % 18446744073709551616 : Nat) : Int)) ∧ Below w.heap.size w w' := by
  obtain ⟨v0, hx0, hxN⟩ := hx
  obtain ⟨A0, c0, rfl, hc0, hC0⟩ := hxN.form
  have hlen := len_lim hn
  obtain ⟨D, hD⟩ : ∃ D, D = (dg n).length := ⟨_, rfl⟩
  have hD1 : 0 < D := by
    rw [hD]; exact List.length_pos_iff.2 (fun h => h0 (by have := vl_dg n; rw [h] at this; simpa [vl] using this.symm))
  rw [← hD] at hlen
  have hA : ∀ W, Below w.heap.size w W → W.cell? ⟨bx, 1, none⟩ = some (.slice A0 D c0) := fun W hB => by
    rw [hD, Lib.cell_of_heap ((hB.block bx (blk_lt hx0)).trans hx0)]; rfl
  have HA := Lib.hid hA
  have HC := Lib.hid hC0
  rw [← hD] at hc0
  have HD := Lib.hid hD
  clear hx0 hxN hC0 hA hD
  go_enter Tryd.func73, Tryd.ntmps73
  go_wp2_with fail
  go_loopg [3, 4] D (fun gk s3 s4 wr => ∃ (i : Nat) (A : Option Addr) (c m : Nat) (ws : List Int), s4 = .int .i64 i ∧ s3 = .slice A m c ∧ m = ws.length ∧ gk = D - i ∧ i ≤ D + 1 ∧ i = 2 * m ∧ (i ≠ 0 → ws.head? = some ((n % 18446744073709551616 : Nat) : Int)) ∧ Kd.R (Kd.int .u64) 110 wr w.heap.size (fun _ => True) (.slice A m c) ws ∧ Below w.heap.size w wr)
  case atStart => exact ⟨0, none, 0, 0, [], rfl, rfl, rfl, rfl, by omega, rfl, fun h => absurd rfl h, Kd.R_nil _ _ _ _ _, Below.refl _ _⟩
  case round =>
    obtain ⟨i, A, c, m, ws, rfl, rfl, hm, rfl, hi, him, hws, hR, hB⟩ := hrel
    have hcell := HA.out wr hB
    have HM := Lib.hid hm
    have HIM := Lib.hid him
    have HWS := Lib.hid hws
    have HR := Lib.hid hR
    have HB := Lib.hid hB
    clear hm him hws hR hB
    by_cases hiD : i < D
    · have hlt : (i : Int) < (D : Int) := by omega
      obtain ⟨i09, hi09, _, hsz9, _⟩ := info_parts info84
      obtain ⟨A9, hcut, hA9, hC9⟩ := print_drop_of (P := Tryd.prog) (Value.int .u32) 0 64 84 .i64 Tryd.underlying64 hi09 hsz9 A0 c0 (dg n) (i : Int) (by omega) (by rw [← HD.out]; omega) (by rw [← HD.out]; exact hc0)
      rw [Int.toNat_natCast, dg_drop, ← HD.out] at hcut
      rw [Int.toNat_natCast, dg_drop, ← HD.out] at hA9
      rw [Int.toNat_natCast, dg_drop] at hC9
      obtain ⟨q, hq⟩ : ∃ q, q = n / 4294967296 ^ i := ⟨_, rfl⟩
      rw [← hq] at hcut hA9 hC9
      have hql : (dg q).length ≤ 200 := by rw [hq, ← dg_drop, List.length_drop, ← HD.out]; omega
      have HC9 := Lib.hid (Kd.C_of_reads (h1 := fun _ => rfl) (hA9 _ (by rw [HD.out]; exact Kd.reads_of_C (Kd.C_below HC.out HB.out))))
      have HQ := Lib.hid hq
      clear hi09 hsz9 hA9 hq
      go_wp2_with fail
      refine (low64_any q hql A9 (c0 - i) hC9 wr HC9.out).mono ?_
      rintro e w1 ⟨rfl, hD1⟩
      obtain ⟨y, hy⟩ : ∃ y : Int, y = ((q % 18446744073709551616 : Nat) : Int) := ⟨_, rfl⟩
      rw [← hy]
      have HY := Lib.hid hy
      have HB1 := Lib.hid (HB.out.trans (hD1.below.mono HB.out.size))
      have HR1 := Lib.hid (Kd.R_alloc (o := .cells #[.int .u64 y] 110) (Kd.R_below HR.out hD1.below))
      clear hy hD1
      go_wp2_with (at_builtin; refine Kd.R_append_row (Value.int .u64) 0 (h1 := fun _ => rfl) (w0 := w) w.heap.size rfl (.tmp 14) (.tmp 22) 111 110 (.int .u64 0) 8 rfl Tryd.underlying111 info110 rfl (by decide) (.slice A m c) ws [y] (some ⟨w1.heap.size, 0, none⟩) 1 1 (fun _ => True) rfl rfl (fun _ _ => trivial) HR1.out (C_word w1 y) (HB1.out.alloc HB1.out.size _) (Nat.le_trans HB1.out.size (by simp)) (by have := HM.out; have := HIM.out; omega) ?_)
      intro v2 w2 h2 hB2 hg2 hat2
      obtain ⟨A2, c2, rfl⟩ := Kd.R_slice h2
      have hl2 : (ws ++ [y]).length = m + 1 := by rw [List.length_append, ← HM.out]; rfl
      rw [hl2] at h2 ⊢
      have HR2 := Lib.hid h2
      have HB2 := Lib.hid hB2
      clear h2 hB2 hg2 hat2 hl2
      go_wp2
      go_roundg (D - (i + 2))
      case measure => omega
      case rel =>
        refine ⟨i + 2, A2, c2, m + 1, ws ++ [y], by go_num, rfl, by rw [List.length_append, ← HM.out]; rfl, rfl, by omega, by have := HIM.out; omega, fun _ => ?_, HR2.out, HB2.out⟩
        by_cases h : i = 0
        · have hm0 : m = 0 := by have := HIM.out; omega
          have hw0 : ws = [] := List.eq_nil_of_length_eq_zero (by rw [← HM.out, hm0])
          rw [hw0, HY.out, HQ.out, h]; simp
        · have := HWS.out h
          rw [List.head?_append, this]; rfl
    · have hge : ¬ (i : Int) < (D : Int) := by omega
      have hw := HWS.out (by omega)
      obtain ⟨x, t, rfl⟩ : ∃ x t, ws = x :: t := by
        cases ws with
        | nil => simp at hw
        | cons x t => exact ⟨x, t, rfl⟩
      simp only [List.head?_cons, Option.some.injEq] at hw
      have hm := HM.out
      obtain ⟨A3, c3, hv, hc3, hC3⟩ := Kd.R_reads HR.out
      injection hv with e1 e2 e3
      subst e1
      obtain ⟨h1, h2, h3⟩ := hC3
      obtain ⟨ad, rfl, hcell3⟩ := h3 (by simp)
      obtain ⟨cs, hcs1, hcs2, hcs3⟩ := hcell3 0 x (by simp)
      have hcs2 : cs = [.int .u64 x] := hcs2
      have hc0' := hcs3 0 (.int .u64 x) (by rw [hcs2]; rfl)
      have HP : Hid (0 < m ∧ wr.cell? ad = some (.int .u64 ((n % 18446744073709551616 : Nat) : Int))) := Lib.hid ⟨by rw [hm]; simp, by rw [← hw, show ad = ad.add 0 from by cases ad with | mk b o p => cases p <;> simp [Addr.add]]; simpa [Kd.int, Kd.scalar] using hc0'⟩
      clear hw hm hcell3 hcs1 hcs2 hcs3 hc0' h1 h2 h3 e2 e3 hc3
      go_wp2
      go_ret
      exact ⟨ad, c, m, rfl, HP.out.1, HP.out.2, HB.out⟩
end Go.Proofs.YtiopgkdldkkonaaDoor

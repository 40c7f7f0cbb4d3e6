/-
  WALKS: the package's whole numbers behind pointers: NewInt, Sub.
-/
import Derived.Test.YtiopgkdldkkonaaDoorI
namespace Go.Proofs.YtiopgkdldkkonaaDoor
open Go.RowKit Go.Proofs.YtiopgkdldkkonaaDoorW.PrintWords Go.Proofs.YtiopgkdldkkonaaDoor.Num Go.Proofs.YtiopgkdldkkonaaDoor.Pn
set_option linter.unusedVariables false
set_option linter.unusedSimpArgs false

set_option maxHeartbeats 1000000 in
set_option maxRecDepth 100000 in
theorem setInt64_any (b n : Nat) (hn : n < 9223372036854775808) (x y : Value) (w : World) (hb : w.heap[b]? = some (.cells #[x, y] 66 (0, 0))) :
    Calls Tryd.prog 45 #[.pointer (some ⟨b, 0, none⟩), .int .i64 n] w fun e w' => e = .returned (.pointer (some ⟨b, 0, none⟩)) ∧ ItPost w b n w' := by
  have HB := Lib.hid hb
  clear hb
  have hd : decide ((n : Int) < 0) = false := by simp
  have h0 : 0 ≤ (n : Int) := by omega
  have hu : IntKind.u64.wrap (n : Int) = n := u64i (by omega) (by omega)
  go_enter Tryd.func45, Tryd.ntmps45
  go_wp2_with fail
  refine (natOf_any n (by omega) w).mono ?_
  rintro e w1 ⟨v, rfl, hN, hB⟩
  obtain ⟨A1, c1_, rfl, hq1, hq2⟩ := hN.form
  clear hq1 hq2
  have HP := Lib.hid (it_put HB.out hN hB)
  obtain ⟨c0, c1, f0, f1⟩ := it_cells ((hB.block b (blk_lt HB.out)).trans HB.out)
  clear hN hB
  go_wp2
  go_ret
  exact ⟨rfl, HP.out.1⟩

/-- What NewInt leaves. -/
def NewPost (w : World) (n : Nat) (w' : World) : Prop := It w' w.heap.size n (fun k => w.heap.size < k) ∧ Below w.heap.size w w'
theorem newPost_of {w w' : World} {n : Nat} {o : Obj} (h : ItPost (w.alloc o) w.heap.size n w') : NewPost w n w' := by
  obtain ⟨h1, h2⟩ := h
  refine ⟨h1.mono (fun k hk => by simp at hk; omega), ?_⟩
  exact ((Below.refl w.heap.size w).alloc (Nat.le_refl _) o).trans (h2.below (by simp) (fun k hk => by subst hk; exact Nat.le_refl _))

set_option maxHeartbeats 1000000 in
set_option maxRecDepth 100000 in
theorem newInt_any (n : Nat) (hn : n < 9223372036854775808) (w : World) :
    Calls Tryd.prog 29 #[.int .i64 n] w fun e w' => e = .returned (.pointer (some ⟨w.heap.size, 0, none⟩)) ∧ NewPost w n w' := by
  go_enter Tryd.func29, Tryd.ntmps29
  go_wp2_with fail
  refine (setInt64_any w.heap.size n hn _ _ _ (heap_alloc_new w _)).mono ?_
  rintro e w1 ⟨rfl, hP⟩
  have HP := Lib.hid (newPost_of hP)
  clear hP
  go_wp2
  go_ret
  exact ⟨rfl, HP.out⟩

theorem cmp_any (m n : Nat) (hm : m < lim) (v u : Value) (S T : Nat → Prop) (w : World) (h : Nt w v m S) (k : Nt w u n T) :
    Calls Tryd.prog 60 #[v, u] w fun e w' => e = .returned (.int .i64 (cmpN m n)) ∧ Drawn0 w w' := by
  obtain ⟨A, c, rfl, hl, hC⟩ := h.form
  obtain ⟨A', c', rfl, hl', hC'⟩ := k.form
  have := len_lim hm
  exact smallbig_nat_cmp.calls 3000 A c (dg m) A' c' (dg n) _ w hC hl hC' hl' (cmp_f m n (by omega) (by omega))

theorem sub_any (m n : Nat) (hm : m < lim) (hle : n ≤ m) (v u : Value) (S T : Nat → Prop) (w : World) (h : Nt w v m S) (k : Nt w u n T) :
    Calls Tryd.prog 62 #[v, u] w fun e w' => ∃ v, e = .returned v ∧ Nt w' v (m - n) (fun k => w.heap.size ≤ k) ∧ Below w.heap.size w w' := by
  obtain ⟨A, c, rfl, hl, hC⟩ := h.form
  obtain ⟨A', c', rfl, hl', hC'⟩ := k.form
  have := len_lim hm
  exact (smallbig_nat_sub.calls 3000 A c (dg m) A' c' (dg n) _ w hC hl hC' hl' (sub_f m n hle (by omega) (by omega))).mono fun _ _ ⟨v, he, h1, h2⟩ => ⟨v, he, Nt.of h1, h2⟩

theorem cmpN_ge {m n : Nat} (h : n ≤ m) : 0 ≤ cmpN m n := by unfold cmpN; split <;> (try split) <;> omega

theorem ItPost.set0 {w w1 : World} {b n : Nat} (h : ItPost w b n w1) (hb : b < w.heap.size) : ItPost w b n (w1.setCell ⟨b, 0, none⟩ (.bool false)) := by
  obtain ⟨⟨v, h1, h2⟩, h3⟩ := h
  have hc : Ch w1 (w1.setCell ⟨b, 0, none⟩ (.bool false)) (fun k => k = b) := (Ch.refl w1 (fun k => k = b)).setCell ⟨b, 0, none⟩ (fun _ => rfl) _
  exact ⟨⟨v, by simp [World.setCell, Array.getElem?_modify, h1], h2.ch hc (fun k hk _ e => by subst e; omega)⟩, h3.same hc⟩
theorem ItPost.of_drewN {w w1 : World} {b n k : Nat} (h : ItPost (w.drewN k) b n w1) : ItPost w b n w1 := by
  obtain ⟨h1, h2⟩ := h
  exact ⟨h1, ⟨h2.os, h2.tape, h2.output, h2.size, h2.block⟩⟩

set_option maxHeartbeats 4000000 in
set_option maxRecDepth 100000 in
theorem sum_sub (b bx m n : Nat) (hm : m < lim) (hlt : n < m) (u : Value) (S T : Nat → Prop) (x y : Value) (w : World) (hb : w.heap[b]? = some (.cells #[x, y] 66 (0, 0))) (hx : It w bx m S) (hu : Nt w u n T) :
    Calls Tryd.prog 46 #[.pointer (some ⟨b, 0, none⟩), .pointer (some ⟨bx, 0, none⟩), u, .bool true] w fun e w' => e = .returned (.pointer (some ⟨b, 0, none⟩)) ∧ ItPost w b (m - n) w' := by
  obtain ⟨v0, hx0, hxN⟩ := hx
  obtain ⟨A0, c0_, rfl, hq1, hq2⟩ := hxN.form
  clear hq1 hq2
  obtain ⟨A2, c2_, rfl, hq1, hq2⟩ := hu.form
  clear hq1 hq2
  have HB := Lib.hid hb
  have HX := Lib.hid hx0
  have HXN := Lib.hid hxN
  have HU := Lib.hid hu
  obtain ⟨d0, d1, _, _⟩ := it_cells hx0
  have HL := Lib.hid (dg_len_pos (show m - n ≠ 0 by omega))
  clear hb hx0 hxN hu
  go_enter Tryd.func46, Tryd.ntmps46
  go_wp2_with fail
  refine (cmp_any m n hm _ _ S T w HXN.out HU.out).mono ?_
  rintro e w1 ⟨rfl, hD⟩
  obtain ⟨⟨k, rfl⟩⟩ := hD
  have hc := cmpN_ge (show n ≤ m by omega)
  generalize cmpN m n = c at hc ⊢
  go_wp2
  go_region_with (go_at_call 62; refine (sub_any m n hm (by omega) _ _ S T _ ?_ ?_).mono ?_; exact Kd.V_drewN HXN.out _; exact Kd.V_drewN HU.out _; rintro e w1 ⟨v, rfl, hN, hB⟩; obtain ⟨A1, c1_, rfl, hq1, hq2⟩ := hN.form; clear hq1 hq2; obtain ⟨c0, c1, f0, f1⟩ := it_cells ((hB.block b (blk_lt HB.out)).trans HB.out); obtain ⟨d0', d1', _, _⟩ := it_cells ((hB.block bx (blk_lt HX.out)).trans HX.out); have HP := Lib.hid (it_put (w := w.drewN (k + 1)) HB.out hN hB); clear hN hB)
  all_goals go_wp2
  all_goals (go_ret; refine ⟨rfl, ?_⟩; first | exact (HP.out.1.of_drewN).set0 (blk_lt HB.out) | exact (HP.out.2.of_drewN).set0 (blk_lt HB.out) | trace_state)
end Go.Proofs.YtiopgkdldkkonaaDoor

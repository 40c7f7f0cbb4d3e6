/-
  WALKS: the package's whole numbers behind pointers: SetUint64, NewInt, Lsh by 7, Sub, Or, Append: what each comes to, and which blocks it writes.
  WALKS: the package's whole numbers behind pointers: NewInt, Sub.
  WALKS: the package's whole numbers behind pointers: Sub; digits of two numbers side by side (twos, byBits, Or).
  WALKS: setTwos, Or (byBits): digits joined.
  WALKS: Or (byBits): digits joined.
-/
import Derived.Test.YtiopgkdldkkonaaDoorZK
import Derived.Test.YtiopgkdldkkonaaDoorZP8
import Derived.WalkKit
import Derived.OwnWalk
import Derived.KernelRfl
import Derived.Deep.RegionWith
import Derived.Deep.RegionHeld3
import Derived.Deep.DeepCutAuto
import Derived.Deep.QuietTactic
import Derived.BigQuiet
import Derived.Lib.Hide
import Derived.Outline
import Derived.Laws.CopyOwn
namespace Go.Proofs.YtiopgkdldkkonaaDoor
open Go.RowKit Go.Proofs.YtiopgkdldkkonaaDoorW.PrintWords Go.Proofs.YtiopgkdldkkonaaDoor.Num Go.Proofs.YtiopgkdldkkonaaDoor.Pn
set_option linter.unusedVariables false
set_option linter.unusedSimpArgs false

/-- Numbers of the size that this claim meets. -/
def lim : Nat := 4294967296 ^ 200
theorem len_lim {n : Nat} (h : n < lim) : (dg n).length ≤ 200 := dg_len_le h

theorem natOf_any (n : Nat) (hn : n < 18446744073709551616) (w : World) :
    Calls Tryd.prog 41 #[.int .u64 n] w fun e w' => ∃ v, e = .returned v ∧ Nt w' v n (fun k => w.heap.size ≤ k) ∧ Below w.heap.size w w' :=
  (smallbig_natOf.calls 3 n (dg n) w (natOf_f n hn (by omega))).mono fun _ _ ⟨v, he, h1, h2⟩ => ⟨v, he, Nt.of h1, h2⟩

theorem lsh7_any (n : Nat) (hn : n < lim) (v : Value) (S : Nat → Prop) (w : World) (h : Nt w v n S) :
    Calls Tryd.prog 42 #[v, .int .u64 7] w fun e w' => ∃ v, e = .returned v ∧ Nt w' v (n * 128) (fun k => w.heap.size ≤ k) ∧ Below w.heap.size w w' := by
  obtain ⟨A, c, rfl, hl, hC⟩ := h.form
  have := len_lim hn
  exact (smallbig_nat_lsh.calls 3000 A c (dg n) 7 (dg (n * 128)) w hC hl (lsh7_f n (by omega) (by omega))).mono fun _ _ ⟨v, he, h1, h2⟩ => ⟨v, he, Nt.of h1, h2⟩

/-- What an operation that lays its result into z leaves. -/
def ItPost (w : World) (b n : Nat) (w' : World) : Prop := It w' b n (fun k => w.heap.size ≤ k) ∧ Ch w w' (fun k => k = b)

theorem it_cells {w : World} {b : Nat} {x y : Value} (hb : w.heap[b]? = some (.cells #[x, y] 66 (0, 0))) :
    w.cell? ⟨b, 0, none⟩ = some x ∧ w.cell? ⟨b, 1, none⟩ = some y ∧ w.frozen? ⟨b, 0, none⟩ = false ∧ w.frozen? ⟨b, 1, none⟩ = false :=
  ⟨by rw [Lib.cell_of_heap hb]; rfl, by rw [Lib.cell_of_heap hb]; rfl, Lib.frozen_of_heap hb 0, Lib.frozen_of_heap hb 1⟩

/-- The digits laid into z, then its sign. -/
theorem it_put {w w1 : World} {b n : Nat} {x y v : Value} (hb : w.heap[b]? = some (.cells #[x, y] 66 (0, 0))) (hN : Nt w1 v n (fun k => w.heap.size ≤ k)) (hB : Below w.heap.size w w1) :
    ItPost w b n ((w1.setCell ⟨b, 1, none⟩ v).setCell ⟨b, 0, none⟩ (.bool false)) ∧ ItPost w b n ((w1.setCell ⟨b, 0, none⟩ (.bool false)).setCell ⟨b, 1, none⟩ v) := by
  have hlt := blk_lt hb
  have hb1 : w1.heap[b]? = some (.cells #[x, y] 66 (0, 0)) := (hB.block b hlt).trans hb
  have hc := Ch.of_below' hB (fun k => k = b)
  have aux : ∀ w2 : World, Ch w1 w2 (fun k => k = b) → w2.heap[b]? = some (.cells #[.bool false, v] 66 (0, 0)) → ItPost w b n w2 := fun w2 h1 h2 =>
    ⟨⟨v, h2, hN.ch h1 (fun k hk _ e => by subst e; omega)⟩, hc.same h1⟩
  refine ⟨aux _ (((Ch.refl w1 (fun k => k = b)).setCell ⟨b, 1, none⟩ (fun _ => rfl) _).setCell ⟨b, 0, none⟩ (fun _ => rfl) _) ?_, aux _ (((Ch.refl w1 (fun k => k = b)).setCell ⟨b, 0, none⟩ (fun _ => rfl) _).setCell ⟨b, 1, none⟩ (fun _ => rfl) _) ?_⟩
  · simp [World.setCell, Array.getElem?_modify, hb1]
  · simp [World.setCell, Array.getElem?_modify, hb1]
theorem ItPost.drew {w w1 : World} {b n : Nat} (h : ItPost w b n w1) : ItPost w b n w1.drew := by
  obtain ⟨⟨v, h1, h2⟩, h3⟩ := h
  exact ⟨⟨v, h1, Kd.V_drew h2⟩, h3.drew⟩
theorem ItPost.of_drew {w w1 : World} {b n : Nat} (h : ItPost w.drew b n w1) : ItPost w b n w1 := by
  obtain ⟨h1, h2⟩ := h
  exact ⟨h1, ⟨h2.os, h2.tape, h2.output, h2.size, h2.block⟩⟩

set_option maxHeartbeats 1000000 in
set_option maxRecDepth 100000 in
theorem setUint64_any (b n : Nat) (hn : n < 18446744073709551616) (x y : Value) (w : World) (hb : w.heap[b]? = some (.cells #[x, y] 66 (0, 0))) :
    Calls Tryd.prog 26 #[.pointer (some ⟨b, 0, none⟩), .int .u64 n] w fun e w' => e = .returned (.pointer (some ⟨b, 0, none⟩)) ∧ ItPost w b n w' := by
  have HB := Lib.hid hb
  clear hb
  go_enter Tryd.func26, Tryd.ntmps26
  go_wp2_with fail
  refine (natOf_any n hn w).mono ?_
  rintro e w1 ⟨v, rfl, hN, hB⟩
  obtain ⟨A1, c1_, rfl, hq1, hq2⟩ := hN.form
  clear hq1 hq2
  have HP := Lib.hid (it_put HB.out hN hB)
  obtain ⟨c0, c1, f0, f1⟩ := it_cells ((hB.block b (blk_lt HB.out)).trans HB.out)
  clear hN hB
  go_wp2
  go_ret
  exact ⟨rfl, HP.out.1⟩

set_option maxHeartbeats 1000000 in
set_option maxRecDepth 100000 in
theorem lsh7_int (b bx n : Nat) (hn : n < lim) (S : Nat → Prop) (x y : Value) (w : World) (hb : w.heap[b]? = some (.cells #[x, y] 66 (0, 0))) (hx : It w bx n S) :
    Calls Tryd.prog 27 #[.pointer (some ⟨b, 0, none⟩), .pointer (some ⟨bx, 0, none⟩), .int .u64 7] w fun e w' => e = .returned (.pointer (some ⟨b, 0, none⟩)) ∧ ItPost w b (n * 128) w' := by
  obtain ⟨v0, hx0, hxN⟩ := hx
  have HB := Lib.hid hb
  have HX := Lib.hid hx0
  have HXN := Lib.hid hxN
  obtain ⟨d0, d1, _, _⟩ := it_cells hx0
  clear hb hx0 hxN
  go_enter Tryd.func27, Tryd.ntmps27
  go_wp2
  go_region_with (go_at_call 42; refine (lsh7_any n hn v0 S _ ?_).mono ?_; exact Kd.V_drew HXN.out; rintro e w1 ⟨v, rfl, hN, hB⟩; obtain ⟨A1, c1_, rfl, hq1, hq2⟩ := hN.form; clear hq1 hq2; obtain ⟨c0, c1, f0, f1⟩ := it_cells ((hB.block b (blk_lt HB.out)).trans HB.out); obtain ⟨d0', d1', _, _⟩ := it_cells ((hB.block bx (blk_lt HX.out)).trans HX.out); have HP := Lib.hid (it_put (w := w.drew) HB.out hN hB); clear hN hB)
  all_goals (go_wp2; go_ret; refine ⟨rfl, ?_⟩; first | exact HP.out.1.of_drew | exact HP.out.2.of_drew | trace_state)
end Go.Proofs.YtiopgkdldkkonaaDoor
namespace Go.Proofs.YtiopgkdldkkonaaDoor
open Go.RowKit Go.Proofs.YtiopgkdldkkonaaDoorW.PrintWords Go.Proofs.YtiopgkdldkkonaaDoor.Num Go.Proofs.YtiopgkdldkkonaaDoor.Pn
set_option linter.unusedVariables false
set_option linter.unusedSimpArgs false

set_option maxHeartbeats 1000000 in
set_option maxRecDepth 100000 in
theorem setInt64_any (b n : Nat) (hn : n < 9223372036854775808) (x y : Value) (w : World) (hb : w.heap[b]? = some (.cells #[x, y] 66 (0, 0))) :
    Calls Tryd.prog 45 #[.pointer (some ⟨b, 0, none⟩), .int .i64 n] w fun e w' => e = .returned (.pointer (some ⟨b, 0, none⟩)) ∧ ItPost w b n w' := by
  have HB := Lib.hid hb
  clear hb
  have hd : decide ((n : Int) < 0) = false := by simp
  have h0 : 0 ≤ (n : Int) := by omega
  have hu : IntKind.u64.wrap (n : Int) = n := u64i (by omega) (by omega)
  go_enter Tryd.func45, Tryd.ntmps45
  go_wp2_with fail
  refine (natOf_any n (by omega) w).mono ?_
  rintro e w1 ⟨v, rfl, hN, hB⟩
  obtain ⟨A1, c1_, rfl, hq1, hq2⟩ := hN.form
  clear hq1 hq2
  have HP := Lib.hid (it_put HB.out hN hB)
  obtain ⟨c0, c1, f0, f1⟩ := it_cells ((hB.block b (blk_lt HB.out)).trans HB.out)
  clear hN hB
  go_wp2
  go_ret
  exact ⟨rfl, HP.out.1⟩

/-- What NewInt leaves. -/
def NewPost (w : World) (n : Nat) (w' : World) : Prop := It w' w.heap.size n (fun k => w.heap.size < k) ∧ Below w.heap.size w w'
theorem newPost_of {w w' : World} {n : Nat} {o : Obj} (h : ItPost (w.alloc o) w.heap.size n w') : NewPost w n w' := by
  obtain ⟨h1, h2⟩ := h
  refine ⟨h1.mono (fun k hk => by simp at hk; omega), ?_⟩
  exact ((Below.refl w.heap.size w).alloc (Nat.le_refl _) o).trans (h2.below (by simp) (fun k hk => by subst hk; exact Nat.le_refl _))

set_option maxHeartbeats 1000000 in
set_option maxRecDepth 100000 in
theorem newInt_any (n : Nat) (hn : n < 9223372036854775808) (w : World) :
    Calls Tryd.prog 29 #[.int .i64 n] w fun e w' => e = .returned (.pointer (some ⟨w.heap.size, 0, none⟩)) ∧ NewPost w n w' := by
  go_enter Tryd.func29, Tryd.ntmps29
  go_wp2_with fail
  refine (setInt64_any w.heap.size n hn _ _ _ (heap_alloc_new w _)).mono ?_
  rintro e w1 ⟨rfl, hP⟩
  have HP := Lib.hid (newPost_of hP)
  clear hP
  go_wp2
  go_ret
  exact ⟨rfl, HP.out⟩

theorem cmp_any (m n : Nat) (hm : m < lim) (v u : Value) (S T : Nat → Prop) (w : World) (h : Nt w v m S) (k : Nt w u n T) :
    Calls Tryd.prog 60 #[v, u] w fun e w' => e = .returned (.int .i64 (cmpN m n)) ∧ Drawn0 w w' := by
  obtain ⟨A, c, rfl, hl, hC⟩ := h.form
  obtain ⟨A', c', rfl, hl', hC'⟩ := k.form
  have := len_lim hm
  exact smallbig_nat_cmp.calls 3000 A c (dg m) A' c' (dg n) _ w hC hl hC' hl' (cmp_f m n (by omega) (by omega))

theorem sub_any (m n : Nat) (hm : m < lim) (hle : n ≤ m) (v u : Value) (S T : Nat → Prop) (w : World) (h : Nt w v m S) (k : Nt w u n T) :
    Calls Tryd.prog 62 #[v, u] w fun e w' => ∃ v, e = .returned v ∧ Nt w' v (m - n) (fun k => w.heap.size ≤ k) ∧ Below w.heap.size w w' := by
  obtain ⟨A, c, rfl, hl, hC⟩ := h.form
  obtain ⟨A', c', rfl, hl', hC'⟩ := k.form
  have := len_lim hm
  exact (smallbig_nat_sub.calls 3000 A c (dg m) A' c' (dg n) _ w hC hl hC' hl' (sub_f m n hle (by omega) (by omega))).mono fun _ _ ⟨v, he, h1, h2⟩ => ⟨v, he, Nt.of h1, h2⟩

theorem cmpN_ge {m n : Nat} (h : n ≤ m) : 0 ≤ cmpN m n := by unfold cmpN; split <;> (try split) <;> omega

theorem ItPost.set0 {w w1 : World} {b n : Nat} (h : ItPost w b n w1) (hb : b < w.heap.size) : ItPost w b n (w1.setCell ⟨b, 0, none⟩ (.bool false)) := by
  obtain ⟨⟨v, h1, h2⟩, h3⟩ := h
  have hc : Ch w1 (w1.setCell ⟨b, 0, none⟩ (.bool false)) (fun k => k = b) := (Ch.refl w1 (fun k => k = b)).setCell ⟨b, 0, none⟩ (fun _ => rfl) _
  exact ⟨⟨v, by simp [World.setCell, Array.getElem?_modify, h1], h2.ch hc (fun k hk _ e => by subst e; omega)⟩, h3.same hc⟩
theorem ItPost.of_drewN {w w1 : World} {b n k : Nat} (h : ItPost (w.drewN k) b n w1) : ItPost w b n w1 := by
  obtain ⟨h1, h2⟩ := h
  exact ⟨h1, ⟨h2.os, h2.tape, h2.output, h2.size, h2.block⟩⟩

set_option maxHeartbeats 4000000 in
set_option maxRecDepth 100000 in
theorem sum_sub (b bx m n : Nat) (hm : m < lim) (hlt : n < m) (u : Value) (S T : Nat → Prop) (x y : Value) (w : World) (hb : w.heap[b]? = some (.cells #[x, y] 66 (0, 0))) (hx : It w bx m S) (hu : Nt w u n T) :
    Calls Tryd.prog 46 #[.pointer (some ⟨b, 0, none⟩), .pointer (some ⟨bx, 0, none⟩), u, .bool true] w fun e w' => e = .returned (.pointer (some ⟨b, 0, none⟩)) ∧ ItPost w b (m - n) w' := by
  obtain ⟨v0, hx0, hxN⟩ := hx
  obtain ⟨A0, c0_, rfl, hq1, hq2⟩ := hxN.form
  clear hq1 hq2
  obtain ⟨A2, c2_, rfl, hq1, hq2⟩ := hu.form
  clear hq1 hq2
  have HB := Lib.hid hb
  have HX := Lib.hid hx0
  have HXN := Lib.hid hxN
  have HU := Lib.hid hu
  obtain ⟨d0, d1, _, _⟩ := it_cells hx0
  have HL := Lib.hid (dg_len_pos (show m - n ≠ 0 by omega))
  clear hb hx0 hxN hu
  go_enter Tryd.func46, Tryd.ntmps46
  go_wp2_with fail
  refine (cmp_any m n hm _ _ S T w HXN.out HU.out).mono ?_
  rintro e w1 ⟨rfl, hD⟩
  obtain ⟨⟨k, rfl⟩⟩ := hD
  have hc := cmpN_ge (show n ≤ m by omega)
  generalize cmpN m n = c at hc ⊢
  go_wp2
  go_region_with (go_at_call 62; refine (sub_any m n hm (by omega) _ _ S T _ ?_ ?_).mono ?_; exact Kd.V_drewN HXN.out _; exact Kd.V_drewN HU.out _; rintro e w1 ⟨v, rfl, hN, hB⟩; obtain ⟨A1, c1_, rfl, hq1, hq2⟩ := hN.form; clear hq1 hq2; obtain ⟨c0, c1, f0, f1⟩ := it_cells ((hB.block b (blk_lt HB.out)).trans HB.out); obtain ⟨d0', d1', _, _⟩ := it_cells ((hB.block bx (blk_lt HX.out)).trans HX.out); have HP := Lib.hid (it_put (w := w.drewN (k + 1)) HB.out hN hB); clear hN hB)
  all_goals go_wp2
  all_goals (go_ret; refine ⟨rfl, ?_⟩; first | exact (HP.out.1.of_drewN).set0 (blk_lt HB.out) | exact (HP.out.2.of_drewN).set0 (blk_lt HB.out) | trace_state)
end Go.Proofs.YtiopgkdldkkonaaDoor
namespace Go.Proofs.YtiopgkdldkkonaaDoor
open Go.RowKit Go.Proofs.YtiopgkdldkkonaaDoorW.PrintWords Go.Proofs.YtiopgkdldkkonaaDoor.Num Go.Proofs.YtiopgkdldkkonaaDoor.Pn
set_option linter.unusedVariables false
set_option linter.unusedSimpArgs false

set_option maxHeartbeats 1000000 in
set_option maxRecDepth 100000 in
theorem sub_int (b bx bz m n : Nat) (hm : m < lim) (hlt : n < m) (S T : Nat → Prop) (x y : Value) (w : World) (hb : w.heap[b]? = some (.cells #[x, y] 66 (0, 0))) (hx : It w bx m S) (hy : It w bz n T) :
    Calls Tryd.prog 31 #[.pointer (some ⟨b, 0, none⟩), .pointer (some ⟨bx, 0, none⟩), .pointer (some ⟨bz, 0, none⟩)] w fun e w' => e = .returned (.pointer (some ⟨b, 0, none⟩)) ∧ ItPost w b (m - n) w' := by
  obtain ⟨v0, hy0, hyN⟩ := hy
  obtain ⟨A0, c0_, rfl, hq1, hq2⟩ := hyN.form
  clear hq1 hq2
  obtain ⟨d0, d1, _, _⟩ := it_cells hy0
  have HB := Lib.hid hb
  have HX := Lib.hid hx
  have HY := Lib.hid hyN
  clear hb hx hy0 hyN
  go_enter Tryd.func31, Tryd.ntmps31
  go_wp2
  go_region_with (go_at_call 46; refine (sum_sub b bx m n hm hlt _ S T x y w.drew HB.out ?_ ?_).mono ?_; (obtain ⟨v1, h1, h2⟩ := HX.out; exact ⟨v1, h1, Kd.V_drew h2⟩); exact Kd.V_drew HY.out; rintro e w1 ⟨rfl, hP⟩; have HP := Lib.hid hP; clear hP)
  all_goals (go_wp2; go_ret; exact ⟨rfl, HP.out.of_drew⟩)
def u32s (l : List Int) : List Value := l.map (Value.int .u32)
theorem made_u32 (n : Nat) : madeCells #[Value.int .u32 0] n = (u32s (List.replicate n 0)).toArray := by
  unfold madeCells u32s
  apply Array.ext'
  apply List.ext_getElem
  · simp
  · intro i h1 h2
    simp [Nat.mod_one]
theorem info84' : (Tryd.prog.info? 84).map (fun i => (i.zero, i.size, i.bytes)) = some (some (.int .u32 0), 1, 4) := by kernel_rfl
theorem size84 : (Tryd.prog.info? 84).map (·.size) = some 1 := by kernel_rfl

/-- The digits of x, and noughts behind them: n of them. -/
def pad (m n : Nat) : List Int := dg m ++ List.replicate (n - (dg m).length) 0
theorem pad_len {m n : Nat} (h : (dg m).length ≤ n) : (pad m n).length = n := by simp [pad]; omega
theorem splice_pad {m n : Nat} (h : (dg m).length ≤ n) : splice (u32s (List.replicate n 0)) 0 (u32s (dg m)) = u32s (pad m n) := by
  simp [splice, u32s, pad, List.drop_replicate]

/-- A row known whole reads as it says. -/
theorem row_V {w : World} {g : Nat} {l : List Int} (hg : w.heap[g]? = some (.cells (u32s l).toArray 84 (0, 0))) (hl : l.length ≤ 9223372036854775807) :
    Kd.V (Kd.int .u32) 84 w 0 (fun k => k = g) (.slice (some ⟨g, 0, none⟩) l.length l.length) l := by
  refine ⟨_, _, rfl, Nat.le_refl _, fun W' hW => ?_⟩
  have hg' : W'.heap[g]? = some (.cells (u32s l).toArray 84 (0, 0)) := (hW g rfl (blk_lt hg)).trans hg
  refine Kd.C_of_reads (h1 := fun _ => rfl) (d := (0 : Int)) ⟨rfl, hl, fun _ => ⟨_, rfl, fun j hj => ?_⟩⟩
  rw [add_plain, Lib.cell_of_heap hg']
  simp [u32s, hj]

set_option maxHeartbeats 2000000 in
set_option maxRecDepth 100000 in
theorem twos_any (bx m n : Nat) (hn : (dg m).length ≤ n) (hn1 : n ≤ 1000) (S : Nat → Prop) (w : World) (hx : It w bx m S) :
    Calls Tryd.prog 58 #[.pointer (some ⟨bx, 0, none⟩), .int .i64 n] w fun e w' => e = .returned (.slice (some ⟨w.heap.size, 0, none⟩) n n) ∧ w'.heap[w.heap.size]? = some (.cells (u32s (pad m n)).toArray 84 (0, 0)) ∧ Below w.heap.size w w' := by
  obtain ⟨v0, hx0, hxN⟩ := hx
  obtain ⟨A0, c0_, rfl, hq1, hC⟩ := hxN.form
  obtain ⟨d0, d1, _, _⟩ := it_cells hx0
  have hmk := print_make (P := Tryd.prog) 64 84 .u32 4 Tryd.underlying64 info84' (by omega) n (by omega)
  rw [made_u32] at hmk
  have HG := Lib.hid (heap_alloc_new w (.cells (u32s (List.replicate n 0)).toArray 84))
  have HB := Lib.hid ((Below.refl w.heap.size w).alloc (Nat.le_refl _) (.cells (u32s (List.replicate n 0)).toArray 84))
  have hsrc : 0 < (u32s (dg m)).length → (some ⟨w.heap.size, 0, none⟩ : Option Addr) = some ⟨w.heap.size, 0, none⟩ ∧ ∃ ad, A0 = some ad ∧ ∀ j v, (u32s (dg m))[j]? = some v → (w.alloc (.cells (u32s (List.replicate n 0)).toArray 84)).cell? (ad.add j) = some v := by
    intro hp
    have hp' : 0 < (dg m).length := by simpa [u32s] using hp
    obtain ⟨ad, rfl, _⟩ := Kd.at_int hC 0 (by omega) (by omega)
    refine ⟨rfl, ad, rfl, fun j v hj => ?_⟩
    have hjl : j < (dg m).length := by have := (List.getElem?_eq_some_iff.1 hj).1; simpa [u32s] using this
    have hc := Kd.foot_int hC (j : Int) (by omega) (by omega)
    rw [Int.toNat_natCast] at hc
    have hv : v = .int .u32 (rd (dg m) (j : Int)) := by
      simp only [u32s, List.getElem?_map] at hj
      rw [List.getElem?_eq_getElem hjl] at hj
      simp at hj
      rw [← hj]; unfold rd; rw [Int.toNat_natCast, List.getD_eq_getElem?_getD, List.getElem?_eq_getElem hjl]; rfl
    rw [hv]
    exact pw_cell_below ((Below.refl w.heap.size w).alloc (Nat.le_refl _) _) hc
  have HS := Lib.hid (fun h => (hsrc h).2)
  have a1 : (w.alloc (.cells (u32s (List.replicate n 0)).toArray 84)).cell? ⟨bx, 1, none⟩ = some (.slice A0 (dg m).length c0_) := pw_cell_below ((Below.refl w.heap.size w).alloc (Nat.le_refl _) _) d1
  have HL := Lib.hid (show (u32s (dg m)).length = Nat.min (dg m).length n from (show (u32s (dg m)).length = min (dg m).length n by rw [Nat.min_eq_left hn]; simp [u32s]))
  have HF := Lib.hid (show 0 + (u32s (dg m)).length ≤ (u32s (List.replicate n 0)).length by simp [u32s]; omega)
  have H1 := Lib.hid (show ∀ v ∈ u32s (dg m), v.oneCell' = true by intro v hv; simp only [u32s, List.mem_map] at hv; obtain ⟨_, _, rfl⟩ := hv; rfl)
  have HN := Lib.hid hn
  clear hsrc hx0 hxN hC hq1 hn
  generalize hcur : u32s (List.replicate n 0) = cur at *
  have HCUR := Lib.hid hcur
  clear hcur
  go_enter Tryd.func58, Tryd.ntmps58
  go_wp2_with (with_reducible refine wpList_copy_splice rfl (.tmp 10) (.tmp 14) 64 64 rfl 84 Tryd.underlying64 size84 (some ⟨w.heap.size, 0, none⟩) A0 n n (dg m).length c0_ rfl rfl w.heap.size 0 cur 84 HG.out (u32s (dg m)) HL.out (fun h => ⟨rfl, HS.out h⟩) HF.out H1.out w.heap.size w HB.out (Nat.le_refl _) ?_)
  intro w2 hg2 hB2
  have HG2 := hg2
  clear hg2
  have HB2 := Lib.hid hB2
  have e0 : w2.cell? ⟨bx, 0, none⟩ = some (.bool false) := pw_cell_below hB2 d0
  clear hB2
  go_wp2
  go_ret
  refine ⟨rfl, ?_, HB2.out⟩
  have := HG2.out
  rw [← HCUR.out, splice_pad HN.out] at this
  exact this

end Go.Proofs.YtiopgkdldkkonaaDoor
namespace Go.Proofs.YtiopgkdldkkonaaDoor
open Go.RowKit Go.Proofs.YtiopgkdldkkonaaDoorW.PrintWords Go.Proofs.YtiopgkdldkkonaaDoor.Num Go.Proofs.YtiopgkdldkkonaaDoor.Pn
set_option linter.unusedVariables false
set_option linter.unusedSimpArgs false

theorem u32s_at {l : List Int} {i : Nat} (h : i < l.length) : (u32s l)[i]? = some (.int .u32 (rd l (i : Int))) := by
  unfold u32s rd
  rw [List.getElem?_map, List.getElem?_eq_getElem h, Int.toNat_natCast, List.getD_eq_getElem?_getD, List.getElem?_eq_getElem h]; rfl
theorem cell_u32s {w : World} {g : Nat} {l : List Int} (hg : w.heap[g]? = some (.cells (u32s l).toArray 84 (0, 0))) {i : Nat} (h : i < l.length) : w.cell? ⟨g, i, none⟩ = some (.int .u32 (rd l (i : Int))) := by
  rw [Lib.cell_of_heap hg]; simpa using u32s_at h

set_option maxHeartbeats 2000000 in
set_option maxRecDepth 100000 in
theorem setTwos_any (b g n : Nat) (l : List Int) (hl : l.length = n) (hn0 : 0 < n) (hn : n ≤ 1000) (hw : Wd l) (htop : rd l ((n : Int) - 1) = 0) (x y : Value) (w : World) (hb : w.heap[b]? = some (.cells #[x, y] 66 (0, 0))) (hg : w.heap[g]? = some (.cells (u32s l).toArray 84 (0, 0))) :
    Calls Tryd.prog 59 #[.pointer (some ⟨b, 0, none⟩), .slice (some ⟨g, 0, none⟩) n n] w fun e w' => e = .returned (.pointer (some ⟨b, 0, none⟩)) ∧ It w' b (vl l) (fun k => k = g ∨ w.heap.size ≤ k) ∧ Ch w w' (fun k => k = b) := by
  have hct : w.cell? ⟨g, n - 1, none⟩ = some (.int .u32 0) := by
    rw [cell_u32s hg (by omega), show ((n - 1 : Nat) : Int) = (n : Int) - 1 from by omega, htop]
  have hne : b ≠ g := by intro e; subst e; rw [hb] at hg; injection hg with hg; injection hg with _ ht _; cases ht
  have HNE := Lib.hid hne
  have HV := Lib.hid (row_V hg (by omega))
  have HB := Lib.hid hb
  have HW := Lib.hid hw
  have HT := Lib.hid htop
  have HL := Lib.hid hl
  have hlen : 0 < (n : Int) := by omega
  have hd1 : decide (0 < (n : Int)) = true := by simpa using hn0
  have hd2 : decide (0 < n) = true := by simpa using hn0
  clear hb hg hw htop hne hl
  go_enter Tryd.func59, Tryd.ntmps59
  go_wp2_with fail
  have hnorm := fun W (hW : Kd.V (Kd.int .u32) 84 W W.heap.size (fun k => k = g) (.slice (some ⟨g, 0, none⟩) l.length n) l) => smallbig_nat_norm.calls 2000 (fun k => k = g) (some ⟨g, 0, none⟩) n l (dg (vl l)) W hW (norm_f HW.out (by have := HL.out; omega) (by have := HL.out; omega))
  rw [HL.out] at hnorm
  refine (hnorm w (by have h := HV.out; rw [HL.out] at h; exact h)).mono ?_
  rintro e w1 ⟨v, rfl, hN, hB⟩
  clear hnorm
  obtain ⟨A1, c1_, rfl, hq1, hq2⟩ := Nt.form hN
  clear hq1 hq2
  obtain ⟨c0, c1, f0, f1⟩ := it_cells ((hB.block b (blk_lt HB.out)).trans HB.out)
  have hc1 := (Ch.of_below' hB (fun k => k = b))
  have hfin : ∀ w2 : World, Ch w1 w2 (fun k => k = b) → w2.heap[b]? = some (.cells #[.bool false, .slice A1 (dg (vl l)).length c1_] 66 (0, 0)) → It w2 b (vl l) (fun k => k = g ∨ w.heap.size ≤ k) ∧ Ch w w2 (fun k => k = b) := fun w2 h1 h2 =>
    ⟨⟨_, h2, Nt.ch (Nt.of hN) h1 (fun k hk _ e => by subst e; rcases hk with hk | hk; exact HNE.out hk; have := blk_lt HB.out; omega)⟩, hc1.same h1⟩
  have hb1 : w1.heap[b]? = some (.cells #[x, y] 66 (0, 0)) := (hB.block b (blk_lt HB.out)).trans HB.out
  have hP := hfin ((w1.setCell ⟨b, 1, none⟩ (.slice A1 (dg (vl l)).length c1_)).setCell ⟨b, 0, none⟩ (.bool false)) (((Ch.refl w1 (fun k => k = b)).setCell ⟨b, 1, none⟩ (fun _ => rfl) _).setCell ⟨b, 0, none⟩ (fun _ => rfl) _) (by simp [World.setCell, Array.getElem?_modify, hb1])
  have HP := Lib.hid hP
  clear hP hfin hN hB hc1 hb1
  go_wp2
  go_ret
  exact ⟨rfl, HP.out⟩

set_option maxRecDepth 100000 in
theorem or_digit (a c : Int) (w : World) : Calls Tryd.prog 44 #[.int .u32 a, .int .u32 c] w fun e w' => e = .returned (.int .u32 (Go.bits .or .u32 a c)) ∧ w' = w := by
  go_enter Tryd.func44, Tryd.ntmps44
  go_wp2
  go_ret
  exact ⟨rfl, rfl⟩
end Go.Proofs.YtiopgkdldkkonaaDoor
namespace Go.Proofs.YtiopgkdldkkonaaDoor
open Go.RowKit Go.Proofs.YtiopgkdldkkonaaDoorW.PrintWords Go.Proofs.YtiopgkdldkkonaaDoorW.PrintLast Go.Proofs.YtiopgkdldkkonaaDoorW.PrintMore Go.Proofs.YtiopgkdldkkonaaDoor.Num Go.Proofs.YtiopgkdldkkonaaDoor.Pn
attribute [local go_sem] max2_int min2_int max_two min_two max_three min_three max_four min_four
set_option linter.unusedVariables false
set_option linter.unusedSimpArgs false

theorem bor_join {v h : Int} (v0 : 0 ≤ v) (v1 : v < 4294967296) (hv : v % 128 = 0) (h0 : 0 ≤ h) (h1 : h < 128) : Go.bits .or .u32 v h = v + h :=
  bits_join .u32 32 (by decide) (fun n a b => by rw [IntKind.wrap_u32]; omega) 7 v h v0 (by omega) (by omega) h0 (by omega) (by omega)
theorem bor_zero {v : Int} (v0 : 0 ≤ v) (v1 : v < 4294967296) : Go.bits .or .u32 v 0 = v := by
  rw [bits_join .u32 32 (by decide) (fun n a b => by rw [IntKind.wrap_u32]; omega) 0 v 0 v0 (by omega) (by omega) (by omega) (by simp) (by omega)]; omega
theorem rd_zero {l : List Int} {i : Nat} (h : ∀ j, i ≤ j → j < l.length → l[j]? = some 0) : rd l (i : Int) = 0 := by
  unfold rd
  rw [Int.toNat_natCast, List.getD_eq_getElem?_getD]
  by_cases hi : i < l.length
  · rw [h i (Nat.le_refl _) hi]; rfl
  · rw [List.getElem?_eq_none (by omega)]; rfl

theorem dg_join {M c : Nat} (h0 : M ≠ 0) (hM : M % 128 = 0) (hc : c < 128) : dg (M + c) = ((M % 4294967296 : Nat) + c : Int) :: dg (M / 4294967296) := by
  rw [dg_pos (by omega), show (M + c) % 4294967296 = M % 4294967296 + c from by omega, show (M + c) / 4294967296 = M / 4294967296 from by omega]
  simp
theorem dg_small {c : Nat} (hc : c < 128) (h0 : c ≠ 0) : dg c = [(c : Int)] := by
  rw [dg_pos h0, show c / 4294967296 = 0 from by omega, dg_zero, show c % 4294967296 = c from by omega]
theorem or_pad {M c n : Nat} (h0 : M ≠ 0) (hM : M % 128 = 0) (hc : c < 128) (hn : n = (dg M).length + 1) (k : Nat) (hk : k < n) :
    Go.bits .or .u32 (rd (pad M n) (k : Int)) (rd (pad c n) (k : Int)) = rd (pad (M + c) n) (k : Int) := by
  have hd := dg_pos h0
  have hlj : (dg (M + c)).length = (dg M).length := by rw [dg_join h0 hM hc, hd]; simp
  have hrep : n - (dg M).length = 1 := by omega
  have hw : Wd (pad M n) := wd_app (wd_dg M) (wd_rep _)
  cases k with
  | zero =>
    have e1 : rd (pad M n) ((0 : Nat) : Int) = ((M % 4294967296 : Nat) : Int) := by unfold pad rd; rw [hd]; rfl
    have e2 : rd (pad (M + c) n) ((0 : Nat) : Int) = ((M % 4294967296 : Nat) : Int) + c := by unfold pad rd; rw [dg_join h0 hM hc]; rfl
    have e3 : rd (pad c n) ((0 : Nat) : Int) = c := by
      unfold pad rd
      by_cases e : c = 0
      · subst e; rw [dg_zero, hn]; rfl
      · rw [dg_small hc e]; rfl
    rw [e1, e2, e3, bor_join (by omega) (by omega) (by omega) (by omega) (by omega)]
  | succ k =>
    have e3 : rd (pad c n) ((k + 1 : Nat) : Int) = 0 := by
      refine rd_zero fun j hj hl => ?_
      unfold pad at hl ⊢
      by_cases e : c = 0
      · subst e; rw [dg_zero] at hl ⊢
        simp at hl ⊢
        rw [List.getElem?_replicate, if_pos (by omega)]
      · rw [dg_small hc e] at hl ⊢
        obtain ⟨j, rfl⟩ : ∃ i, j = i + 1 := ⟨j - 1, by omega⟩
        simp at hl ⊢
        rw [List.getElem?_replicate, if_pos (by omega)]
    have hr := rd_wd hw ((k + 1 : Nat) : Int)
    rw [e3, bor_zero hr.1 hr.2]
    unfold pad rd
    rw [Int.toNat_natCast, hlj, dg_join h0 hM hc, hd]
    rfl

theorem row_step {w : World} {g n k : Nat} {L : List Int} (hL : L.length = n) (hk : k < n) (hg : w.heap[g]? = some (.cells (u32s (L.take k ++ List.replicate (n - k) 0)).toArray 84 (0, 0))) :
    (w.setCell ⟨g, k, none⟩ (.int .u32 (rd L (k : Int)))).heap[g]? = some (.cells (u32s (L.take (k + 1) ++ List.replicate (n - (k + 1)) 0)).toArray 84 (0, 0)) := by
  have hrd : rd L (k : Int) = L[k] := by
    unfold rd; rw [Int.toNat_natCast, List.getD_eq_getElem?_getD, List.getElem?_eq_getElem (by omega)]; rfl
  have hl : (u32s (L.take k ++ List.replicate (n - k) 0)).toArray.setIfInBounds k (.int .u32 (rd L (k : Int))) = (u32s (L.take (k + 1) ++ List.replicate (n - (k + 1)) 0)).toArray := by
    rw [List.setIfInBounds_toArray]
    congr 1
    rw [hrd, List.take_succ_eq_append_getElem (by omega), show n - k = (n - (k + 1)) + 1 from by omega, List.replicate_succ]
    unfold u32s
    simp only [List.map_append, List.map_cons, List.map_nil]
    rw [List.set_append_right _ _ (by simp; omega), show k - (List.map (Value.int .u32) (List.take k L)).length = 0 from by simp; omega]
    simp
  simp only [World.setCell, Array.getElem?_modify, hg]
  simp [hl]
theorem row_cell {w : World} {g n k : Nat} {L : List Int} (hL : L.length = n) (hk : k < n) (hg : w.heap[g]? = some (.cells (u32s (L.take k ++ List.replicate (n - k) 0)).toArray 84 (0, 0))) :
    w.cell? ⟨g, k, none⟩ = some (.int .u32 (rd (L.take k ++ List.replicate (n - k) 0) (k : Int))) ∧ w.frozen? ⟨g, k, none⟩ = false :=
  ⟨cell_u32s hg (by simp; omega), Lib.frozen_of_heap hg k⟩

theorem vl_pad (m n : Nat) : vl (pad m n) = m := by unfold pad; rw [vl_app, vl_rep, vl_dg]; simp
theorem wd_pad (m n : Nat) : Wd (pad m n) := wd_app (wd_dg m) (wd_rep _)
theorem pad_top {m n : Nat} (h : n = (dg m).length + 1) : rd (pad m n) ((n : Int) - 1) = 0 := by
  unfold pad
  rw [show n - (dg m).length = 1 from by omega, show (n : Int) - 1 = ((dg m).length : Int) from by omega]
  exact rd_snoc (dg m) 0

set_option maxHeartbeats 4000000 in
set_option maxRecDepth 100000 in
theorem byBits_or (b bx bz M c : Nat) (h0 : M ≠ 0) (hm : M < lim) (hM : M % 128 = 0) (hc : c < 128) (S T : Nat → Prop) (x y : Value) (w : World) (hb : w.heap[b]? = some (.cells #[x, y] 66 (0, 0))) (hx : It w bx M S) (hy : It w bz c T) :
    Calls Tryd.prog 43 #[.pointer (some ⟨b, 0, none⟩), .pointer (some ⟨bx, 0, none⟩), .pointer (some ⟨bz, 0, none⟩), .func (.func 44) #[] #[]] w fun e w' => e = .returned (.pointer (some ⟨b, 0, none⟩)) ∧ ItPost w b (M + c) w' := by
  obtain ⟨v0, hx0, hxN⟩ := id hx
  obtain ⟨A0, c0_, rfl, hq1, hq2⟩ := hxN.form
  clear hq1 hq2
  obtain ⟨v2, hy0, hyN⟩ := id hy
  obtain ⟨A2, c2_, rfl, hq1, hq2⟩ := hyN.form
  clear hq1 hq2
  obtain ⟨d0, d1, _, _⟩ := it_cells hx0
  obtain ⟨d2, d3, _, _⟩ := it_cells hy0
  have HX := Lib.hid hx
  have HY := Lib.hid hy
  have HB := Lib.hid hb
  have hlx := len_lim hm
  have hly : (dg c).length ≤ 1 := dg_len_le (by omega)
  have hlx0 := dg_len_pos h0
  obtain ⟨lx, hlx'⟩ : ∃ l, l = (dg M).length := ⟨_, rfl⟩
  obtain ⟨ly, hly'⟩ : ∃ l, l = (dg c).length := ⟨_, rfl⟩
  rw [← hlx'] at d1 hlx hlx0
  rw [← hly'] at d3 hly
  have HLX := Lib.hid hlx'
  have HLY := Lib.hid hly'
  clear hx hy hb hx0 hxN hy0 hyN hlx' hly'
  go_enter Tryd.func43, Tryd.ntmps43
  go_wp2_with fail
  go_quiet (fail)
  go_wp2_with fail
  obtain ⟨n, hn⟩ : ∃ n : Nat, n = lx + 1 := ⟨_, rfl⟩
  have hgo : (lx : Int) + 1 = (n : Int) := by omega
  rw [hgo]
  have HN := Lib.hid hn
  have hn1 : n ≤ 1000 := by omega
  have hn0 : 0 < n := by omega
  clear hn hgo hlx hlx0
  refine (twos_any bx M n (by have := HN.out; have := HLX.out; omega) hn1 S _ (by obtain ⟨v1, h1, h2⟩ := HX.out; exact ⟨v1, h1, Kd.V_drewN h2 _⟩)).mono ?_
  rintro e w1 ⟨rfl, hg1, hB1⟩
  have HG1 := Lib.hid hg1
  have hB1' : Below w.heap.size w w1 := ⟨hB1.os, hB1.tape, hB1.output, hB1.size, hB1.block⟩
  have HB1 := Lib.hid hB1'
  clear hg1 hB1 hB1'
  go_wp2_with fail
  have HYw : Hid (It w1 bz c T) := Lib.hid (by obtain ⟨v1, h1, h2⟩ := HY.out; exact ⟨v1, (HB1.out.block bz (blk_lt h1)).trans h1, Kd.V_below h2 HB1.out⟩)
  refine (twos_any bz c n (by have := HN.out; have := HLY.out; omega) hn1 T _ HYw.out).mono ?_
  rintro e w2 ⟨rfl, hg2, hB2⟩
  have HG2 := Lib.hid hg2
  have HG1' : Hid (w2.heap[w.heap.size]? = some (.cells (u32s (pad M n)).toArray 84 (0, 0))) := Lib.hid ((hB2.block _ (blk_lt HG1.out)).trans HG1.out)
  have HB2 := Lib.hid (below_then HB1.out HB1.out.size hB2)
  have hlt1 : w.heap.size < w1.heap.size := blk_lt HG1.out
  have hlt2 : w1.heap.size < w2.heap.size := blk_lt hg2
  clear hg2 hB2 HG1 HB1 HYw
  have hmk := print_make (P := Tryd.prog) 64 84 .u32 4 Tryd.underlying64 info84' (by omega) n (by omega)
  rw [made_u32] at hmk
  generalize hcur : u32s (List.replicate n 0) = cur at hmk
  have HCUR := Lib.hid hcur
  clear hcur
  go_wp2
  go_loopw [36] (fun v wr => ∃ k : Nat, k ≤ n ∧ v = .int .i64 k ∧ wr.heap[w2.heap.size]? = some (.cells (u32s ((pad (M + c) n).take k ++ List.replicate (n - k) 0)).toArray 84 (0, 0)) ∧ Ch (w2.alloc (.cells cur.toArray 84)) wr (fun k => k = w2.heap.size)) (fun v _ => n - (intOf v).toNat)
  case atStart => exact ⟨0, Nat.zero_le _, rfl, by simp only [List.take_zero, List.nil_append, Nat.sub_zero]; rw [HCUR.out]; exact heap_alloc_new w2 _, Ch.refl _ _⟩
  case round =>
    obtain ⟨k, hk, rfl, hgr, hcr⟩ := hrel
    have HGR := Lib.hid hgr
    have HCR := Lib.hid hcr
    have hne1 : w.heap.size ≠ w2.heap.size := by omega
    have hne2 : w1.heap.size ≠ w2.heap.size := by omega
    have HA : Hid (wr.heap[w.heap.size]? = some (.cells (u32s (pad M n)).toArray 84 (0, 0))) := Lib.hid (hcr.blk ((Below.heap_alloc w2 _ _ (by omega)).trans HG1'.out) hne1)
    have HC : Hid (wr.heap[w1.heap.size]? = some (.cells (u32s (pad c n)).toArray 84 (0, 0))) := Lib.hid (hcr.blk ((Below.heap_alloc w2 _ _ (by omega)).trans HG2.out) hne2)
    clear hgr hcr
    by_cases hlt : k < n
    · have ca := cell_u32s HA.out (i := k) (by rw [pad_len (by have := HN.out; have := HLX.out; omega)]; exact hlt)
      have cc := cell_u32s HC.out (i := k) (by rw [pad_len (by have := HN.out; have := HLY.out; omega)]; exact hlt)
      have hpl : (pad (M + c) n).length = n := pad_len (by rw [dg_join h0 hM hc]; have := HN.out; have := HLX.out; have e := congrArg List.length (dg_pos h0); simp at e ⊢; omega)
      obtain ⟨cd, fd⟩ := row_cell hpl hlt HGR.out
      have HOR := Lib.hid (or_pad h0 hM hc (by rw [HN.out, HLX.out]) k hlt)
      have HST := Lib.hid (row_step hpl hlt HGR.out)
      clear hpl
      generalize rd (pad M n) (k : Int) = da at *
      generalize rd (pad c n) (k : Int) = dc at *
      generalize rd ((pad (M + c) n).take k ++ List.replicate (n - k) 0) (k : Int) = dz at *
      clear hne1 hne2
      go_wp2
      go_region_with (go_at_call 44; refine (or_digit _ _ _).mono ?_; rintro e w' ⟨rfl, rfl⟩)
      all_goals
        go_wp2
        go_roundw
        case rel => exact ⟨k + 1, by omega, by go_num, by rw [HOR.out]; exact HST.out, (HCR.out.setCell ⟨w2.heap.size, k, none⟩ (fun _ => rfl) _).drew⟩
        case measure => simp [intOf]; omega
    · obtain rfl : k = n := by omega
      have hjl : (dg (M + c)).length = (dg M).length := by rw [dg_join h0 hM hc, dg_pos h0]; simp
      have hkl : k = (dg (M + c)).length + 1 := by rw [hjl, HN.out, HLX.out]
      have hpl : (pad (M + c) k).length = k := pad_len (by omega)
      have hgr := HGR.out
      rw [Nat.sub_self, List.replicate_zero, List.append_nil, List.take_of_length_le (by omega)] at hgr
      have hwb : wr.heap[b]? = some (.cells #[x, y] 66 (0, 0)) := HCR.out.blk ((Below.heap_alloc w2 _ _ (by have := blk_lt HB.out; omega)).trans ((HB2.out.block b (blk_lt HB.out)).trans HB.out)) (by have := blk_lt HB.out; omega)
      have HGR2 := Lib.hid hgr
      have HWB := Lib.hid hwb
      have HPL := Lib.hid hpl
      have HKL := Lib.hid hkl
      have HLT := Lib.hid hlt2
      have HLT1 := Lib.hid hlt1
      clear hgr hwb hpl hkl hjl HGR hlt1 hlt2 hne1 hne2
      go_wp2_with fail
      refine (setTwos_any b w2.heap.size k (pad (M + c) k) HPL.out hn0 hn1 (wd_pad _ _) (pad_top HKL.out) x y wr HWB.out HGR2.out).mono ?_
      rintro e w3 ⟨rfl, hI, hC⟩
      rw [vl_pad] at hI
      have hP : ItPost w b (M + c) w3 := by
        refine ⟨hI.mono (fun j hj => ?_), ?_⟩
        · have := HLT.out; have := HLT1.out; have := HCR.out.size; simp at this
          rcases hj with hj | hj <;> omega
        · have h1 : Ch w (w2.alloc (.cells cur.toArray 84)) (fun j => j = b) := (Ch.of_below' HB2.out _).alloc _
          exact (h1.trans (T := fun j => j = w2.heap.size) HCR.out (fun i hi e => by subst e; have := HLT.out; have := HLT1.out; omega)).same hC
      have HP := Lib.hid hP
      clear hI hC hP
      go_wp2
      go_ret
      exact ⟨rfl, HP.out⟩

set_option maxHeartbeats 1000000 in
set_option maxRecDepth 100000 in
theorem or_int (b bx bz M c : Nat) (h0 : M ≠ 0) (hm : M < lim) (hM : M % 128 = 0) (hc : c < 128) (S T : Nat → Prop) (x y : Value) (w : World) (hb : w.heap[b]? = some (.cells #[x, y] 66 (0, 0))) (hx : It w bx M S) (hy : It w bz c T) :
    Calls Tryd.prog 28 #[.pointer (some ⟨b, 0, none⟩), .pointer (some ⟨bx, 0, none⟩), .pointer (some ⟨bz, 0, none⟩)] w fun e w' => e = .returned (.pointer (some ⟨b, 0, none⟩)) ∧ ItPost w b (M + c) w' := by
  have H := Lib.hid (byBits_or b bx bz M c h0 hm hM hc S T x y w hb hx hy)
  clear hb hx hy
  go_enter Tryd.func28, Tryd.ntmps28
  go_wp2_with fail
  refine H.out.mono ?_
  rintro e w1 ⟨rfl, hP⟩
  have HP := Lib.hid hP
  clear hP
  go_wp2
  go_ret
  exact ⟨rfl, HP.out⟩
end Go.Proofs.YtiopgkdldkkonaaDoor

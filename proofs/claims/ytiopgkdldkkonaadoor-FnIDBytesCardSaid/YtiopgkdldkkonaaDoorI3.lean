/-
  WALKS: the package's whole numbers behind pointers: Sub; digits of two numbers side by side (twos, byBits, Or).
-/
import Derived.Test.YtiopgkdldkkonaaDoorI2
import Derived.Laws.CopyOwn
namespace Go.Proofs.YtiopgkdldkkonaaDoor
open Go.RowKit Go.Proofs.YtiopgkdldkkonaaDoorW.PrintWords Go.Proofs.YtiopgkdldkkonaaDoor.Num Go.Proofs.YtiopgkdldkkonaaDoor.Pn
set_option linter.unusedVariables false
set_option linter.unusedSimpArgs false

set_option maxHeartbeats 1000000 in
set_option maxRecDepth 100000 in
theorem sub_int (b bx bz m n : Nat) (hm : m < lim) (hlt : n < m) (S T : Nat → Prop) (x y : Value) (w : World) (hb : w.heap[b]? = some (.cells #[x, y] 66 (0, 0))) (hx : It w bx m S) (hy : It w bz n T) :
    Calls Tryd.prog 31 #[.pointer (some ⟨b, 0, none⟩), .pointer (some ⟨bx, 0, none⟩), .pointer (some ⟨bz, 0, none⟩)] w fun e w' => e = .returned (.pointer (some ⟨b, 0, none⟩)) ∧ ItPost w b (m - n) w' := by
  obtain ⟨v0, hy0, hyN⟩ := hy
  obtain ⟨A0, c0_, rfl, hq1, hq2⟩ := hyN.form
  clear hq1 hq2
  obtain ⟨d0, d1, _, _⟩ := it_cells hy0
  have HB := Lib.hid hb
  have HX := Lib.hid hx
  have HY := Lib.hid hyN
  clear hb hx hy0 hyN
  go_enter Tryd.func31, Tryd.ntmps31
  go_wp2
  go_region_with (go_at_call 46; refine (sum_sub b bx m n hm hlt _ S T x y w.drew HB.out ?_ ?_).mono ?_; (obtain ⟨v1, h1, h2⟩ := HX.out; exact ⟨v1, h1, Kd.V_drew h2⟩); exact Kd.V_drew HY.out; rintro e w1 ⟨rfl, hP⟩; have HP := Lib.hid hP; clear hP)
  all_goals (go_wp2; go_ret; exact ⟨rfl, HP.out.of_drew⟩)
def u32s (l : List Int) : List Value := l.map (Value.int .u32)
theorem made_u32 (n : Nat) : madeCells #[Value.int .u32 0] n = (u32s (List.replicate n 0)).toArray := by
  unfold madeCells u32s
  apply Array.ext'
  apply List.ext_getElem
  · simp
  · intro i h1 h2
    simp [Nat.mod_one]
theorem info84' : (Tryd.prog.info? 84).map (fun i => (i.zero, i.size, i.bytes)) = some (some (.int .u32 0), 1, 4) := by kernel_rfl
theorem size84 : (Tryd.prog.info? 84).map (·.size) = some 1 := by kernel_rfl

/-- The digits of x, and noughts behind them: n of them. -/
def pad (m n : Nat) : List Int := dg m ++ List.replicate (n - (dg m).length) 0
theorem pad_len {m n : Nat} (h : (dg m).length ≤ n) : (pad m n).length = n := by simp [pad]; omega
theorem splice_pad {m n : Nat} (h : (dg m).length ≤ n) : splice (u32s (List.replicate n 0)) 0 (u32s (dg m)) = u32s (pad m n) := by
  simp [splice, u32s, pad, List.drop_replicate]

/-- A row known whole reads as it says. -/
theorem row_V {w : World} {g : Nat} {l : List Int} (hg : w.heap[g]? = some (.cells (u32s l).toArray 84 (0, 0))) (hl : l.length ≤ 9223372036854775807) :
    Kd.V (Kd.int .u32) 84 w 0 (fun k => k = g) (.slice (some ⟨g, 0, none⟩) l.length l.length) l := by
  refine ⟨_, _, rfl, Nat.le_refl _, fun W' hW => ?_⟩
  have hg' : W'.heap[g]? = some (.cells (u32s l).toArray 84 (0, 0)) := (hW g rfl (blk_lt hg)).trans hg
  refine Kd.C_of_reads (h1 := fun _ => rfl) (d := (0 : Int)) ⟨rfl, hl, fun _ => ⟨_, rfl, fun j hj => ?_⟩⟩
  rw [add_plain, Lib.cell_of_heap hg']
  simp [u32s, hj]

set_option maxHeartbeats 2000000 in
set_option maxRecDepth 100000 in
theorem twos_any (bx m n : Nat) (hn : (dg m).length ≤ n) (hn1 : n ≤ 1000) (S : Nat → Prop) (w : World) (hx : It w bx m S) :
    Calls Tryd.prog 58 #[.pointer (some ⟨bx, 0, none⟩), .int .i64 n] w fun e w' => e = .returned (.slice (some ⟨w.heap.size, 0, none⟩) n n) ∧ w'.heap[w.heap.size]? = some (.cells (u32s (pad m n)).toArray 84 (0, 0)) ∧ Below w.heap.size w w' := by
  obtain ⟨v0, hx0, hxN⟩ := hx
  obtain ⟨A0, c0_, rfl, hq1, hC⟩ := hxN.form
  obtain ⟨d0, d1, _, _⟩ := it_cells hx0
  have hmk := print_make (P := Tryd.prog) 64 84 .u32 4 Tryd.underlying64 info84' (by omega) n (by omega)
  rw [made_u32] at hmk
  have HG := Lib.hid (heap_alloc_new w (.cells (u32s (List.replicate n 0)).toArray 84))
  have HB := Lib.hid ((Below.refl w.heap.size w).alloc (Nat.le_refl _) (.cells (u32s (List.replicate n 0)).toArray 84))
  have hsrc : 0 < (u32s (dg m)).length → (some ⟨w.heap.size, 0, none⟩ : Option Addr) = some ⟨w.heap.size, 0, none⟩ ∧ ∃ ad, A0 = some ad ∧ ∀ j v, (u32s (dg m))[j]? = some v → (w.alloc (.cells (u32s (List.replicate n 0)).toArray 84)).cell? (ad.add j) = some v := by
    intro hp
    have hp' : 0 < (dg m).length := by simpa [u32s] using hp
    obtain ⟨ad, rfl, _⟩ := Kd.at_int hC 0 (by omega) (by omega)
    refine ⟨rfl, ad, rfl, fun j v hj => ?_⟩
    have hjl : j < (dg m).length := by have := (List.getElem?_eq_some_iff.1 hj).1; simpa [u32s] using this
    have hc := Kd.foot_int hC (j : Int) (by omega) (by omega)
    rw [Int.toNat_natCast] at hc
    have hv : v = .int .u32 (rd (dg m) (j : Int)) := by
      simp only [u32s, List.getElem?_map] at hj
      rw [List.getElem?_eq_getElem hjl] at hj
      simp at hj
      rw [← hj]; unfold rd; rw [Int.toNat_natCast, List.getD_eq_getElem?_getD, List.getElem?_eq_getElem hjl]; rfl
    rw [hv]
    exact pw_cell_below ((Below.refl w.heap.size w).alloc (Nat.le_refl _) _) hc
  have HS := Lib.hid (fun h => (hsrc h).2)
  have a1 : (w.alloc (.cells (u32s (List.replicate n 0)).toArray 84)).cell? ⟨bx, 1, none⟩ = some (.slice A0 (dg m).length c0_) := pw_cell_below ((Below.refl w.heap.size w).alloc (Nat.le_refl _) _) d1
  have HL := Lib.hid (show (u32s (dg m)).length = Nat.min (dg m).length n from (show (u32s (dg m)).length = min (dg m).length n by rw [Nat.min_eq_left hn]; simp [u32s]))
  have HF := Lib.hid (show 0 + (u32s (dg m)).length ≤ (u32s (List.replicate n 0)).length by simp [u32s]; omega)
  have H1 := Lib.hid (show ∀ v ∈ u32s (dg m), v.oneCell' = true by intro v hv; simp only [u32s, List.mem_map] at hv; obtain ⟨_, _, rfl⟩ := hv; rfl)
  have HN := Lib.hid hn
  clear hsrc hx0 hxN hC hq1 hn
  generalize hcur : u32s (List.replicate n 0) = cur at *
  have HCUR := Lib.hid hcur
  clear hcur
  go_enter Tryd.func58, Tryd.ntmps58
  go_wp2_with (with_reducible refine wpList_copy_splice rfl (.tmp 10) (.tmp 14) 64 64 rfl 84 Tryd.underlying64 size84 (some ⟨w.heap.size, 0, none⟩) A0 n n (dg m).length c0_ rfl rfl w.heap.size 0 cur 84 HG.out (u32s (dg m)) HL.out (fun h => ⟨rfl, HS.out h⟩) HF.out H1.out w.heap.size w HB.out (Nat.le_refl _) ?_)
  intro w2 hg2 hB2
  have HG2 := hg2
  clear hg2
  have HB2 := Lib.hid hB2
  have e0 : w2.cell? ⟨bx, 0, none⟩ = some (.bool false) := pw_cell_below hB2 d0
  clear hB2
  go_wp2
  go_ret
  refine ⟨rfl, ?_, HB2.out⟩
  have := HG2.out
  rw [← HCUR.out, splice_pad HN.out] at this
  exact this

end Go.Proofs.YtiopgkdldkkonaaDoor

/-
  WALKS: Or (byBits): digits joined.
-/
import Derived.Test.YtiopgkdldkkonaaDoorI4
namespace Go.Proofs.YtiopgkdldkkonaaDoor
open Go.RowKit Go.Proofs.YtiopgkdldkkonaaDoorW.PrintWords Go.Proofs.YtiopgkdldkkonaaDoorW.PrintLast Go.Proofs.YtiopgkdldkkonaaDoorW.PrintMore Go.Proofs.YtiopgkdldkkonaaDoor.Num Go.Proofs.YtiopgkdldkkonaaDoor.Pn
attribute [local go_sem] max2_int min2_int max_two min_two max_three min_three max_four min_four
set_option linter.unusedVariables false
set_option linter.unusedSimpArgs false

theorem bor_join {v h : Int} (v0 : 0 ≤ v) (v1 : v < 4294967296) (hv : v % 128 = 0) (h0 : 0 ≤ h) (h1 : h < 128) : Go.bits .or .u32 v h = v + h :=
  bits_join .u32 32 (by decide) (fun n a b => by rw [IntKind.wrap_u32]; omega) 7 v h v0 (by omega) (by omega) h0 (by omega) (by omega)
theorem bor_zero {v : Int} (v0 : 0 ≤ v) (v1 : v < 4294967296) : Go.bits .or .u32 v 0 = v := by
  rw [bits_join .u32 32 (by decide) (fun n a b => by rw [IntKind.wrap_u32]; omega) 0 v 0 v0 (by omega) (by omega) (by omega) (by simp) (by omega)]; omega
theorem rd_zero {l : List Int} {i : Nat} (h : ∀ j, i ≤ j → j < l.length → l[j]? = some 0) : rd l (i : Int) = 0 := by
  unfold rd
  rw [Int.toNat_natCast, List.getD_eq_getElem?_getD]
  by_cases hi : i < l.length
  · rw [h i (Nat.le_refl _) hi]; rfl
  · rw [List.getElem?_eq_none (by omega)]; rfl

theorem dg_join {M c : Nat} (h0 : M ≠ 0) (hM : M % 128 = 0) (hc : c < 128) : dg (M + c) = ((M % 4294967296 : Nat) + c : Int) :: dg (M / 4294967296) := by
  rw [dg_pos (by omega), show (M + c) % 4294967296 = M % 4294967296 + c from by omega, show (M + c) / 4294967296 = M / 4294967296 from by omega]
  simp
theorem dg_small {c : Nat} (hc : c < 128) (h0 : c ≠ 0) : dg c = [(c : Int)] := by
  rw [dg_pos h0, show c / 4294967296 = 0 from by omega, dg_zero, show c % 4294967296 = c from by omega]
theorem or_pad {M c n : Nat} (h0 : M ≠ 0) (hM : M % 128 = 0) (hc : c < 128) (hn : n = (dg M).length + 1) (k : Nat) (hk : k < n) :
    Go.bits .or .u32 (rd (pad M n) (k : Int)) (rd (pad c n) (k : Int)) = rd (pad (M + c) n) (k : Int) := by
  have hd := dg_pos h0
  have hlj : (dg (M + c)).length = (dg M).length := by rw [dg_join h0 hM hc, hd]; simp
  have hrep : n - (dg M).length = 1 := by omega
  have hw : Wd (pad M n) := wd_app (wd_dg M) (wd_rep _)
  cases k with
  | zero =>
    have e1 : rd (pad M n) ((0 : Nat) : Int) = ((M % 4294967296 : Nat) : Int) := by unfold pad rd; rw [hd]; rfl
    have e2 : rd (pad (M + c) n) ((0 : Nat) : Int) = ((M % 4294967296 : Nat) : Int) + c := by unfold pad rd; rw [dg_join h0 hM hc]; rfl
    have e3 : rd (pad c n) ((0 : Nat) : Int) = c := by
      unfold pad rd
      by_cases e : c = 0
      · subst e; rw [dg_zero, hn]; rfl
      · rw [dg_small hc e]; rfl
    rw [e1, e2, e3, bor_join (by omega) (by omega) (by omega) (by omega) (by omega)]
  | succ k =>
    have e3 : rd (pad c n) ((k + 1 : Nat) : Int) = 0 := by
      refine rd_zero fun j hj hl => ?_
      unfold pad at hl ⊢
      by_cases e : c = 0
      · subst e; rw [dg_zero] at hl ⊢
        simp at hl ⊢
        rw [List.getElem?_replicate, if_pos (by omega)]
      · rw [dg_small hc e] at hl ⊢
        obtain ⟨j, rfl⟩ : ∃ i, j = i + 1 := ⟨j - 1, by omega⟩
        simp at hl ⊢
        rw [List.getElem?_replicate, if_pos (by omega)]
    have hr := rd_wd hw ((k + 1 : Nat) : Int)
    rw [e3, bor_zero hr.1 hr.2]
    unfold pad rd
    rw [Int.toNat_natCast, hlj, dg_join h0 hM hc, hd]
    rfl

theorem row_step {w : World} {g n k : Nat} {L : List Int} (hL : L.length = n) (hk : k < n) (hg : w.heap[g]? = some (.cells (u32s (L.take k ++ List.replicate (n - k) 0)).toArray 84 (0, 0))) :
    (w.setCell ⟨g, k, none⟩ (.int .u32 (rd L (k : Int)))).heap[g]? = some (.cells (u32s (L.take (k + 1) ++ List.replicate (n - (k + 1)) 0)).toArray 84 (0, 0)) := by
  have hrd : rd L (k : Int) = L[k] := by
    unfold rd; rw [Int.toNat_natCast, List.getD_eq_getElem?_getD, List.getElem?_eq_getElem (by omega)]; rfl
  have hl : (u32s (L.take k ++ List.replicate (n - k) 0)).toArray.setIfInBounds k (.int .u32 (rd L (k : Int))) = (u32s (L.take (k + 1) ++ List.replicate (n - (k + 1)) 0)).toArray := by
    rw [List.setIfInBounds_toArray]
    congr 1
    rw [hrd, List.take_succ_eq_append_getElem (by omega), show n - k = (n - (k + 1)) + 1 from by omega, List.replicate_succ]
    unfold u32s
    simp only [List.map_append, List.map_cons, List.map_nil]
    rw [List.set_append_right _ _ (by simp; omega), show k - (List.map (Value.int .u32) (List.take k L)).length = 0 from by simp; omega]
    simp
  simp only [World.setCell, Array.getElem?_modify, hg]
  simp [hl]
theorem row_cell {w : World} {g n k : Nat} {L : List Int} (hL : L.length = n) (hk : k < n) (hg : w.heap[g]? = some (.cells (u32s (L.take k ++ List.replicate (n - k) 0)).toArray 84 (0, 0))) :
    w.cell? ⟨g, k, none⟩ = some (.int .u32 (rd (L.take k ++ List.replicate (n - k) 0) (k : Int))) ∧ w.frozen? ⟨g, k, none⟩ = false :=
  ⟨cell_u32s hg (by simp; omega), Lib.frozen_of_heap hg k⟩

theorem vl_pad (m n : Nat) : vl (pad m n) = m := by unfold pad; rw [vl_app, vl_rep, vl_dg]; simp
theorem wd_pad (m n : Nat) : Wd (pad m n) := wd_app (wd_dg m) (wd_rep _)
theorem pad_top {m n : Nat} (h : n = (dg m).length + 1) : rd (pad m n) ((n : Int) - 1) = 0 := by
  unfold pad
  rw [show n - (dg m).length = 1 from by omega, show (n : Int) - 1 = ((dg m).length : Int) from by omega]
  exact rd_snoc (dg m) 0

set_option maxHeartbeats 4000000 in
set_option maxRecDepth 100000 in
theorem byBits_or (b bx bz M c : Nat) (h0 : M ≠ 0) (hm : M < lim) (hM : M % 128 = 0) (hc : c < 128) (S T : Nat → Prop) (x y : Value) (w : World) (hb : w.heap[b]? = some (.cells #[x, y] 66 (0, 0))) (hx : It w bx M S) (hy : It w bz c T) :
    Calls Tryd.prog 43 #[.pointer (some ⟨b, 0, none⟩), .pointer (some ⟨bx, 0, none⟩), .pointer (some ⟨bz, 0, none⟩), .func (.func 44) #[] #[]] w fun e w' => e = .returned (.pointer (some ⟨b, 0, none⟩)) ∧ ItPost w b (M + c) w' := by
  obtain ⟨v0, hx0, hxN⟩ := id hx
  obtain ⟨A0, c0_, rfl, hq1, hq2⟩ := hxN.form
  clear hq1 hq2
  obtain ⟨v2, hy0, hyN⟩ := id hy
  obtain ⟨A2, c2_, rfl, hq1, hq2⟩ := hyN.form
  clear hq1 hq2
  obtain ⟨d0, d1, _, _⟩ := it_cells hx0
  obtain ⟨d2, d3, _, _⟩ := it_cells hy0
  have HX := Lib.hid hx
  have HY := Lib.hid hy
  have HB := Lib.hid hb
  have hlx := len_lim hm
  have hly : (dg c).length ≤ 1 := dg_len_le (by omega)
  have hlx0 := dg_len_pos h0
  obtain ⟨lx, hlx'⟩ : ∃ l, l = (dg M).length := ⟨_, rfl⟩
  obtain ⟨ly, hly'⟩ : ∃ l, l = (dg c).length := ⟨_, rfl⟩
  rw [← hlx'] at d1 hlx hlx0
  rw [← hly'] at d3 hly
  have HLX := Lib.hid hlx'
  have HLY := Lib.hid hly'
  clear hx hy hb hx0 hxN hy0 hyN hlx' hly'
  go_enter Tryd.func43, Tryd.ntmps43
  go_wp2_with fail
  go_quiet (fail)
  go_wp2_with fail
  obtain ⟨n, hn⟩ : ∃ n : Nat, n = lx + 1 := ⟨_, rfl⟩
  have hgo : (lx : Int) + 1 = (n : Int) := by omega
  rw [hgo]
  have HN := Lib.hid hn
  have hn1 : n ≤ 1000 := by omega
  have hn0 : 0 < n := by omega
  clear hn hgo hlx hlx0
  refine (twos_any bx M n (by have := HN.out; have := HLX.out; omega) hn1 S _ (by obtain ⟨v1, h1, h2⟩ := HX.out; exact ⟨v1, h1, Kd.V_drewN h2 _⟩)).mono ?_
  rintro e w1 ⟨rfl, hg1, hB1⟩
  have HG1 := Lib.hid hg1
  have hB1' : Below w.heap.size w w1 := ⟨hB1.os, hB1.tape, hB1.output, hB1.size, hB1.block⟩
  have HB1 := Lib.hid hB1'
  clear hg1 hB1 hB1'
  go_wp2_with fail
  have HYw : Hid (It w1 bz c T) := Lib.hid (by obtain ⟨v1, h1, h2⟩ := HY.out; exact ⟨v1, (HB1.out.block bz (blk_lt h1)).trans h1, Kd.V_below h2 HB1.out⟩)
  refine (twos_any bz c n (by have := HN.out; have := HLY.out; omega) hn1 T _ HYw.out).mono ?_
  rintro e w2 ⟨rfl, hg2, hB2⟩
  have HG2 := Lib.hid hg2
  have HG1' : Hid (w2.heap[w.heap.size]? = some (.cells (u32s (pad M n)).toArray 84 (0, 0))) := Lib.hid ((hB2.block _ (blk_lt HG1.out)).trans HG1.out)
  have HB2 := Lib.hid (below_then HB1.out HB1.out.size hB2)
  have hlt1 : w.heap.size < w1.heap.size := blk_lt HG1.out
  have hlt2 : w1.heap.size < w2.heap.size := blk_lt hg2
  clear hg2 hB2 HG1 HB1 HYw
  have hmk := print_make (P := Tryd.prog) 64 84 .u32 4 Tryd.underlying64 info84' (by omega) n (by omega)
  rw [made_u32] at hmk
  generalize hcur : u32s (List.replicate n 0) = cur at hmk
  have HCUR := Lib.hid hcur
  clear hcur
  go_wp2
  go_loopw [36] (fun v wr => ∃ k : Nat, k ≤ n ∧ v = .int .i64 k ∧ wr.heap[w2.heap.size]? = some (.cells (u32s ((pad (M + c) n).take k ++ List.replicate (n - k) 0)).toArray 84 (0, 0)) ∧ Ch (w2.alloc (.cells cur.toArray 84)) wr (fun k => k = w2.heap.size)) (fun v _ => n - (intOf v).toNat)
  case atStart => exact ⟨0, Nat.zero_le _, rfl, by simp only [List.take_zero, List.nil_append, Nat.sub_zero]; rw [HCUR.out]; exact heap_alloc_new w2 _, Ch.refl _ _⟩
  case round =>
    obtain ⟨k, hk, rfl, hgr, hcr⟩ := hrel
    have HGR := Lib.hid hgr
    have HCR := Lib.hid hcr
    have hne1 : w.heap.size ≠ w2.heap.size := by omega
    have hne2 : w1.heap.size ≠ w2.heap.size := by omega
    have HA : Hid (wr.heap[w.heap.size]? = some (.cells (u32s (pad M n)).toArray 84 (0, 0))) := Lib.hid (hcr.blk ((Below.heap_alloc w2 _ _ (by omega)).trans HG1'.out) hne1)
    have HC : Hid (wr.heap[w1.heap.size]? = some (.cells (u32s (pad c n)).toArray 84 (0, 0))) := Lib.hid (hcr.blk ((Below.heap_alloc w2 _ _ (by omega)).trans HG2.out) hne2)
    clear hgr hcr
    by_cases hlt : k < n
    · have ca := cell_u32s HA.out (i := k) (by rw [pad_len (by have := HN.out; have := HLX.out; omega)]; exact hlt)
      have cc := cell_u32s HC.out (i := k) (by rw [pad_len (by have := HN.out; have := HLY.out; omega)]; exact hlt)
      have hpl : (pad (M + c) n).length = n := pad_len (by rw [dg_join h0 hM hc]; have := HN.out; have := HLX.out; have e := congrArg List.length (dg_pos h0); simp at e ⊢; omega)
      obtain ⟨cd, fd⟩ := row_cell hpl hlt HGR.out
      have HOR := Lib.hid (or_pad h0 hM hc (by rw [HN.out, HLX.out]) k hlt)
      have HST := Lib.hid (row_step hpl hlt HGR.out)
      clear hpl
      generalize rd (pad M n) (k : Int) = da at *
      generalize rd (pad c n) (k : Int) = dc at *
      generalize rd ((pad (M + c) n).take k ++ List.replicate (n - k) 0) (k : Int) = dz at *
      clear hne1 hne2
      go_wp2
      go_region_with (go_at_call 44; refine (or_digit _ _ _).mono ?_; rintro e w' ⟨rfl, rfl⟩)
      all_goals
        go_wp2
        go_roundw
        case rel => exact ⟨k + 1, by omega, by go_num, by rw [HOR.out]; exact HST.out, (HCR.out.setCell ⟨w2.heap.size, k, none⟩ (fun _ => rfl) _).drew⟩
        case measure => simp [intOf]; omega
    · obtain rfl : k = n := by omega
      have hjl : (dg (M + c)).length = (dg M).length := by rw [dg_join h0 hM hc, dg_pos h0]; simp
      have hkl : k = (dg (M + c)).length + 1 := by rw [hjl, HN.out, HLX.out]
      have hpl : (pad (M + c) k).length = k := pad_len (by omega)
      have hgr := HGR.out
      rw [Nat.sub_self, List.replicate_zero, List.append_nil, List.take_of_length_le (by omega)] at hgr
      have hwb : wr.heap[b]? = some (.cells #[x, y] 66 (0, 0)) := HCR.out.blk ((Below.heap_alloc w2 _ _ (by have := blk_lt HB.out; omega)).trans ((HB2.out.block b (blk_lt HB.out)).trans HB.out)) (by have := blk_lt HB.out; omega)
      have HGR2 := Lib.hid hgr
      have HWB := Lib.hid hwb
      have HPL := Lib.hid hpl
      have HKL := Lib.hid hkl
      have HLT := Lib.hid hlt2
      have HLT1 := Lib.hid hlt1
      clear hgr hwb hpl hkl hjl HGR hlt1 hlt2 hne1 hne2
      go_wp2_with fail
      refine (setTwos_any b w2.heap.size k (pad (M + c) k) HPL.out hn0 hn1 (wd_pad _ _) (pad_top HKL.out) x y wr HWB.out HGR2.out).mono ?_
      rintro e w3 ⟨rfl, hI, hC⟩
      rw [vl_pad] at hI
      have hP : ItPost w b (M + c) w3 := by
        refine ⟨hI.mono (fun j hj => ?_), ?_⟩
        · have := HLT.out; have := HLT1.out; have := HCR.out.size; simp at this
          rcases hj with hj | hj <;> omega
        · have h1 : Ch w (w2.alloc (.cells cur.toArray 84)) (fun j => j = b) := (Ch.of_below' HB2.out _).alloc _
          exact (h1.trans (T := fun j => j = w2.heap.size) HCR.out (fun i hi e => by subst e; have := HLT.out; have := HLT1.out; omega)).same hC
      have HP := Lib.hid hP
      clear hI hC hP
      go_wp2
      go_ret
      exact ⟨rfl, HP.out⟩

set_option maxHeartbeats 1000000 in
set_option maxRecDepth 100000 in
theorem or_int (b bx bz M c : Nat) (h0 : M ≠ 0) (hm : M < lim) (hM : M % 128 = 0) (hc : c < 128) (S T : Nat → Prop) (x y : Value) (w : World) (hb : w.heap[b]? = some (.cells #[x, y] 66 (0, 0))) (hx : It w bx M S) (hy : It w bz c T) :
    Calls Tryd.prog 28 #[.pointer (some ⟨b, 0, none⟩), .pointer (some ⟨bx, 0, none⟩), .pointer (some ⟨bz, 0, none⟩)] w fun e w' => e = .returned (.pointer (some ⟨b, 0, none⟩)) ∧ ItPost w b (M + c) w' := by
  have H := Lib.hid (byBits_or b bx bz M c h0 hm hM hc S T x y w hb hx hy)
  clear hb hx hy
  go_enter Tryd.func28, Tryd.ntmps28
  go_wp2_with fail
  refine H.out.mono ?_
  rintro e w1 ⟨rfl, hP⟩
  have HP := Lib.hid hP
  clear hP
  go_wp2
  go_ret
  exact ⟨rfl, HP.out⟩
end Go.Proofs.YtiopgkdldkkonaaDoor

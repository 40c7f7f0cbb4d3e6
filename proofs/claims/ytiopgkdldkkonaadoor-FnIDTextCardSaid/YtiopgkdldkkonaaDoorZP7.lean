/-
  PRINTED by print.py out of the translation (function bodies, their contracts), mended by hand where it did not build. Not trusted: Lean checks it.
-/
import Derived.Test.YtiopgkdldkkonaaDoorZP0
namespace Go.Proofs.YtiopgkdldkkonaaDoor.Pn
open Go.RowKit Go.Proofs.YtiopgkdldkkonaaDoorW.PrintWords Go.Proofs.YtiopgkdldkkonaaDoorW.PrintLast Go.Proofs.YtiopgkdldkkonaaDoorW.PrintMore
attribute [local go_sem] max2_int min2_int max_two min_two max_three min_three max_four min_four   -- for this text's walks alone
set_option linter.unusedVariables false
set_option linter.unusedSimpArgs false

/-! ### x509_OID_AppendBinary: function 36 -/
def x509_OID_AppendBinary.f (l0_0 : List Int) (l1 : List Int) : Option (List Int × Option Int) := if l1.length + l0_0.length < 140737488355328 then (some ((l1 ++ l0_0), none)) else (none)
set_option maxHeartbeats 8000000 in
set_option maxRecDepth 100000 in
theorem x509_OID_AppendBinary.calls (A0_0 : Option Addr) (c0_0 : Nat) (l0_0 : List Int) (P1_ : Nat → Prop) (u9000_ : Value) (l1 : List Int) (r1 : List Int) (r2 : Option Int) (w0 w : World) (hB : Below w0.heap.size w0 w) (hr0_0 : ∀ W_, Kept w W_ (fun k_ => P1_ k_) → Kd.C (Kd.int .u8) W_ A0_0 l0_0.length l0_0) (hc0_0 : l0_0.length ≤ c0_0) (ho1 : Kd.R (Kd.int .u8) 5 w w0.heap.size P1_ u9000_ l1) (h : x509_OID_AppendBinary.f l0_0 l1 = some (r1, r2)) :
    Calls Tryd.prog 36 #[.agg #[.slice A0_0 l0_0.length c0_0], u9000_] w fun e w' => ∃ v0_ : Value, e = .returned (.tuple #[v0_, errW r2]) ∧ Kd.R (Kd.int .u8) 5 w' w0.heap.size (fun k_ => (P1_ k_ ∨ w.heap.size ≤ k_)) v0_ r1 ∧ Below w0.heap.size w0 w' ∧ Kept w w' (fun k_ => P1_ k_) := by
  have hu39 := Tryd.underlying39
  have HR0_0 := Aside0.mk hr0_0
  have HC0_0 := Aside0.mk hc0_0
  clear hr0_0 hc0_0
  have HO1 := Aside0.mk (show Kd.R (Kd.int .u8) 5 w w0.heap.size (fun k_ => (P1_ k_ ∨ w.heap.size ≤ k_)) u9000_ l1 from Kd.R_mono ho1 (fun k_ hk => (.inl hk)))
  have HK := Aside0.mk (Kept.refl w (fun k_ => P1_ k_))
  have HW0 := Aside0.mk hB.size
  have HB := Aside0.mk hB
  clear hB
  have H : (if l1.length + l0_0.length < 140737488355328 then (some ((l1 ++ l0_0), none)) else (none)) = some (r1, r2) := h
  clear h
  by_cases c3 : l1.length + l0_0.length < 140737488355328
  · rw [if_pos c3] at H
    have LMc3 := Aside0.mk c3
    clear c3
    obtain ⟨y246, hy246⟩ : ∃ y_ : List Int, y_ = (l1 ++ l0_0) := ⟨_, rfl⟩
    replace H : (some (y246, none)) = some (r1, r2) := by first | (rw [hy246]; with_reducible exact H) | (have H2_ := (Option.bind_some _ _).symm.trans H; rw [hy246]; with_reducible exact H2_) | (have H2_ := (Option.bind_some _ _).symm.trans H; with_reducible exact H2_) | with_reducible exact H | (rw [hy246]; exact H) | exact H
    have Ny246 := Aside0.mk hy246
    clear hy246
    simp only [Option.some.injEq, Prod.mk.injEq] at H
    obtain ⟨rfl, rfl⟩ := H
    go_enter Tryd.func36, Tryd.ntmps36
    go_wp2_with (first | ((with_reducible refine gate_dst (N := 2) rfl ?_); refine box_event ?hg (N := 2) ?hd (cs := #[.slice A0_0 l0_0.length c0_0]) (t := 39) ?hr ?_; (case hd => rfl); (case hg => rfl); (case hr => first | (go_simp; done) | (go_simp; rfl)); intro gb245 hg w4 hbox hb; have n0_ := Aside0.mk (Kd.R_below (by (with_reducible repeat (first | apply Kd.R_alloc | apply Kd.R_drewN | apply Kd.R_drew)); exact HO1.out) hb); have n1_ := Aside0.mk (Kept.below (S := (fun k_ => P1_ k_)) (by repeat (first | (with_reducible first | exact HK.out | apply Kept.alloc | apply Kept.drewN | apply Kept.drew) | exact HK.out)) hb); have n2_ := Aside0.mk (below_step (by repeat (first | (with_reducible first | exact HB.out | apply below_alloc | apply pw_below_drewN | apply below_drew1) | exact HB.out)) hb); have n3_ := Aside0.mk (hbox); have n4_ := Aside0.mk ((by rw [hg]; exact (by first | exact HK.out.1 | exact (show Kept w _ (fun k_ => P1_ k_) from by repeat (first | (with_reducible first | exact HK.out | apply Kept.alloc | apply Kept.drewN | apply Kept.drew) | exact HK.out)).1) : w.heap.size ≤ gb245)); have n5_ := Aside0.mk ((by rw [hg]; exact (below_size (by repeat (first | (with_reducible first | exact HB.out | apply below_alloc | apply pw_below_drewN | apply below_drew1) | exact HB.out))) : w0.heap.size ≤ gb245)); clear HO1; clear HK; clear HB; have HO1 := n0_; have HK := n1_; have HB := n2_; have BK245 := n3_; have GW245 := n4_; have GE245 := n5_; clear n0_ n1_ n2_ n3_ n4_ n5_; clear hb hbox hg; have hcz5_0 : w4.cell? ⟨gb245, 0, none⟩ = some (.slice A0_0 l0_0.length c0_0) := (blk_cell BK245.out 0).trans rfl; have hfz5_0 := blk_frozen BK245.out 0) | ((with_reducible refine gate_builtin (b := .append) (xs := #[.tmp 6, .tmp 8]) rfl ?_); at_builtin; refine Kd.R_append_rows (Kd.int .u8) (w0 := w0) w0.heap.size rfl (.tmp 6) (.tmp 8) 23 5 (.int .u8 0) 1 rfl Tryd.underlying23 info5 rfl (by decide) (by omega) u9000_ l1 l0_0 _ _ _ (fun k_ => (P1_ k_ ∨ w.heap.size ≤ k_)) (fun _ => False) rfl rfl ?aO ?aR (fun _ _ h => h) (fun _ h => h.elim) ?aF ?aB ?aS ?aL ?_; (case aR => exact Kd.C_kept_now HR0_0.out (by repeat (first | (with_reducible first | exact HK.out | apply Kept.alloc | apply Kept.drewN | apply Kept.drew | refine Kept.setCell ?_ (.inr GW245.out) _) | exact HK.out))); (case aB => exact (by repeat (first | (with_reducible first | exact HB.out | apply below_alloc | apply pw_below_drewN | apply below_drew1 | refine below_set ?_ GE245.out) | exact HB.out))); (case aF => exact (fun k_ hk => (.inr (Nat.le_trans (by first | exact HK.out.1 | exact (show Kept w _ (fun k_ => P1_ k_) from by repeat (first | (with_reducible first | exact HK.out | apply Kept.alloc | apply Kept.drewN | apply Kept.drew | refine Kept.setCell ?_ (.inr GW245.out) _) | exact HK.out)).1) hk)))); (case aO => exact (by (with_reducible repeat (first | apply Kd.R_alloc | apply Kd.R_drewN | apply Kd.R_drew)); exact HO1.out)); (case aS => exact (below_size (by repeat (first | (with_reducible first | exact HB.out | apply below_alloc | apply pw_below_drewN | apply below_drew1 | refine below_set ?_ GE245.out) | exact HB.out)))); (case aL => have := LMc3.out; omega); intro v247 w6 ho hb hg hat; rw [← Ny246.out] at ho; have n0_ := Aside0.mk (blk_grown (g := gb245) (o := .cells #[.slice A0_0 l0_0.length c0_0] 39 (0, 0)) (by (with_reducible repeat (first | refine blk_drewN ?_ _ | refine blk_drew ?_ | refine blk_alloc ?_ _)); exact BK245.out) hg (Kd.R_ne HO1.out BK245.out (by decide))); have n1_ := Aside0.mk (hb); have n2_ := Aside0.mk (Kept.of_grown (S := (fun k_ => P1_ k_)) hg (by repeat (first | (with_reducible first | exact HK.out | apply Kept.alloc | apply Kept.drewN | apply Kept.drew | refine Kept.setCell ?_ (.inr GW245.out) _) | exact HK.out)) (fun k_ e_ => (HO1.out.1 k_ e_))); have n3_ := Aside0.mk (ho); clear BK245; clear HB; clear HK; clear HO1; have BK245 := n0_; have HB := n1_; have HK := n2_; have HO248 := n3_; clear n0_ n1_ n2_ n3_; clear ho hb hg hat))
    go_ret2
    exact ⟨_, by first | rfl | (simp [errW_none, errW_some] <;> rfl) | (simp [*, errW_none, errW_some] <;> rfl), by (with_reducible repeat (first | apply Kd.R_alloc | apply Kd.R_drewN | apply Kd.R_drew)); exact HO248.out, by repeat (first | (with_reducible first | exact HB.out | apply below_alloc | apply pw_below_drewN | apply below_drew1 | refine below_set ?_ GE245.out) | exact HB.out), by repeat (first | (with_reducible first | exact HK.out | apply Kept.alloc | apply Kept.drewN | apply Kept.drew | refine Kept.setCell ?_ (.inr GW245.out) _) | exact HK.out)⟩
  · rw [if_neg c3] at H
    exact absurd H (by simp)

/-! ### x509_OID_MarshalBinary: function 16 -/
def x509_OID_MarshalBinary.f (l0_0 : List Int) : Option (List Int × Option Int) := (x509_OID_AppendBinary.f l0_0 ([] : List Int)).bind fun bt250 => (some (bt250.1, bt250.2))
set_option maxHeartbeats 8000000 in
set_option maxRecDepth 100000 in
theorem x509_OID_MarshalBinary.calls (A0_0 : Option Addr) (c0_0 : Nat) (l0_0 : List Int) (r1 : List Int) (r2 : Option Int) (w : World) (hr0_0 : Kd.C (Kd.int .u8) w A0_0 l0_0.length l0_0) (hc0_0 : l0_0.length ≤ c0_0) (h : x509_OID_MarshalBinary.f l0_0 = some (r1, r2)) :
    Calls Tryd.prog 16 #[.agg #[.slice A0_0 l0_0.length c0_0]] w fun e w' => ∃ v0_ : Value, e = .returned (.tuple #[v0_, errW r2]) ∧ Kd.R (Kd.int .u8) 5 w' w.heap.size (fun _ => True) v0_ r1 ∧ Below w.heap.size w w' := by
  have hu39 := Tryd.underlying39
  have HR0_0 := Aside0.mk hr0_0
  have HC0_0 := Aside0.mk hc0_0
  clear hr0_0 hc0_0
  have HB := Aside0.mk (Below.refl w.heap.size w)
  have H : ((x509_OID_AppendBinary.f l0_0 ([] : List Int)).bind fun bt250 => (some (bt250.1, bt250.2))) = some (r1, r2) := h
  clear h
  replace H := Option.bind_eq_some_iff.mp H
  obtain ⟨⟨t250, t253⟩, A20, H⟩ := H
  replace H : (some (t250, t253)) = some (r1, r2) := H
  have A2 := Aside0.mk A20
  clear A20
  simp only [Option.some.injEq, Prod.mk.injEq] at H
  obtain ⟨rfl, rfl⟩ := H
  go_enter Tryd.func16, Tryd.ntmps16
  go_wp2_with (first | ((with_reducible refine gate_dst (N := 1) rfl ?_); refine box_event ?hg (N := 1) ?hd (cs := #[.slice A0_0 l0_0.length c0_0]) (t := 39) ?hr ?_; (case hd => rfl); (case hg => rfl); (case hr => first | (go_simp; done) | (go_simp; rfl)); intro gb249 hg w3 hbox hb; have n0_ := Aside0.mk (below_step (by repeat (first | (with_reducible first | exact HB.out | apply below_alloc | apply pw_below_drewN | apply below_drew1) | exact HB.out)) hb); have n1_ := Aside0.mk (hbox); have n2_ := Aside0.mk ((by rw [hg]; exact (below_size (by repeat (first | (with_reducible first | exact HB.out | apply below_alloc | apply pw_below_drewN | apply below_drew1) | exact HB.out))) : w.heap.size ≤ gb249)); have n3_ := Aside0.mk ((by rw [hg]; exact (below_size (by repeat (first | (with_reducible first | exact HB.out | apply below_alloc | apply pw_below_drewN | apply below_drew1) | exact HB.out))) : w.heap.size ≤ gb249)); clear HB; have HB := n0_; have BK249 := n1_; have GW249 := n2_; have GE249 := n3_; clear n0_ n1_ n2_ n3_; clear hb hbox hg; have hcz4_0 : w3.cell? ⟨gb249, 0, none⟩ = some (.slice A0_0 l0_0.length c0_0) := (blk_cell BK249.out 0).trans rfl; have hfz4_0 := blk_frozen BK249.out 0) | ((with_reducible refine gate_callee (f := 36) rfl ?_); refine goesL_ (some 5) rfl rfl Tryd.func36 (by kernel_rfl) rfl #[.agg #[.slice A0_0 l0_0.length c0_0], .slice none 0 0] rfl (by (try simp only [List.map_toArray, List.map_cons, List.map_nil]); first | done | rfl | (simp only [List.length_drop, List.length_take]; rfl)) ?_; (refine (x509_OID_AppendBinary.calls _ _ l0_0 (fun k_ => some k_ = (.slice none 0 0 : Value).ownBlock) (.slice none 0 0) ([] : List Int) t250 t253 w _ ?side1 ?side2 ?side3 ?side4 A2.out).mono ?_); (case side1 => repeat (first | (with_reducible first | exact HB.out | apply below_alloc | apply pw_below_drewN | apply below_drew1 | refine below_set ?_ GE249.out) | exact HB.out)); (case side2 => exact Kd.C_kept_came (Kd.heap_int .u8) HR0_0.out (by repeat (first | (with_reducible first | exact HB.out | apply below_alloc | apply pw_below_drewN | apply below_drew1 | refine below_set ?_ GE249.out) | exact HB.out)) (fun k_ hs_ => (fun e_ => by simp [Value.ownBlock] at e_) hs_)); (case side3 => exact HC0_0.out); (case side4 => exact Kd.R_nil _ _ _ _ _); rintro e w5 ⟨v251, rfl, ho0, hb, hkp⟩; refine ⟨_, rfl, ?_⟩; have n0_ := Aside0.mk (blk_kept (by (with_reducible repeat (first | refine blk_drewN ?_ _ | refine blk_drew ?_ | refine blk_alloc ?_ _)); exact BK249.out) hkp (fun hs_ => (fun e_ => by simp [Value.ownBlock] at e_) hs_)); have n1_ := Aside0.mk (Kd.R_mono (ok' := fun k_ => True) ho0 (fun k_ hk_ => trivial)); have n2_ := Aside0.mk (hb); clear BK249; clear HB; have BK249 := n0_; have HO252 := n1_; have HB := n2_; clear n0_ n1_ n2_; (try clear hb); (try clear hkp); (try clear ho0); (try simp only [errW_none, errW_some])))
  go_ret2
  exact ⟨_, by first | rfl | (simp [errW_none, errW_some] <;> rfl) | (simp [*, errW_none, errW_some] <;> rfl), by (with_reducible repeat (first | apply Kd.R_alloc | apply Kd.R_drewN | apply Kd.R_drew)); exact HO252.out, by repeat (first | (with_reducible first | exact HB.out | apply below_alloc | apply pw_below_drewN | apply below_drew1 | refine below_set ?_ GE249.out) | exact HB.out)⟩

end Go.Proofs.YtiopgkdldkkonaaDoor.Pn

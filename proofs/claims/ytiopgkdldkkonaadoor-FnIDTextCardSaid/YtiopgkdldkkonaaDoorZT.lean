/-
  WALKS: Text and Append of the package's whole numbers, at base 10.
-/
import Derived.Test.YtiopgkdldkkonaaDoorZI
import Derived.Test.YtiopgkdldkkonaaDoorZNat3
import Derived.Test.YtiopgkdldkkonaaDoorZU
import Derived.Laws.IdiomStrings
import Derived.Lib.AppendStr
namespace Go.Proofs.YtiopgkdldkkonaaDoor
open Go.RowKit Go.Proofs.YtiopgkdldkkonaaDoorW.PrintWords Go.Proofs.YtiopgkdldkkonaaDoor.Num Go.Proofs.YtiopgkdldkkonaaDoor.Pn
set_option linter.unusedVariables false
set_option linter.unusedSimpArgs false

/-- The cells of a slice of bytes. -/
theorem c8_cells {w : World} {A : Option Addr} {n : Nat} {l : List UInt8} (h : (Kd.int .u8).C w A n (ints l)) (hl : l ≠ []) :
    n = l.length ∧ ∃ ad, A = some ad ∧ ∀ j u, (Lib.byteCells l)[j]? = some u → w.cell? (ad.add j) = some u := by
  obtain ⟨h1, h2, h3⟩ := h
  have hn : l.length = n := by simpa [ints] using h1
  obtain ⟨ad, rfl, hc⟩ := h3 (by have := List.length_pos_iff.2 hl; omega)
  refine ⟨hn.symm, ad, rfl, fun j u hj => ?_⟩
  have hjl : j < l.length := by
    have := (List.getElem?_eq_some_iff.1 hj).1
    simpa [Lib.byteCells] using this
  obtain ⟨c, hc1, hc2, hc3⟩ := hc j ((l[j].toNat : Int)) (by simp [ints, hjl])
  have hc2 : c = [.int .u8 (l[j].toNat : Int)] := hc2
  have e : (Lib.byteCells l)[j]? = some (.int .u8 (l[j].toNat : Int)) := by simp [Lib.byteCells, hjl]
  rw [e] at hj
  injection hj with hj
  subst hj
  have := hc3 0 (.int .u8 (l[j].toNat : Int)) (by rw [hc2]; rfl)
  simpa [Kd.int, Kd.scalar] using this

theorem rv_lim {n : Nat} (h : n < lim) : (rv n).length ≤ 2000 := by
  have h1 : 4294967296 ^ 200 < (10 ^ 10) ^ 200 := Nat.pow_lt_pow_left (by decide) (by decide)
  have h2 : ∀ a b : Nat, (10 ^ a) ^ b = 10 ^ (a * b) := fun a b => (Nat.pow_mul 10 a b).symm
  rw [h2 10 200] at h1
  have h3 := rv_len (m := 10 * 200) (Nat.lt_trans h h1)
  omega
theorem dec_len {n : Nat} (h0 : n ≠ 0) : (Lib.decDigits n).length = (rv n).length := by
  have := congrArg List.length (rv_dec h0)
  simp [ints] at this; omega
theorem dec_ne (n : Nat) : Lib.decDigits n ≠ [] := by
  intro h
  unfold Lib.decDigits at h
  split at h <;> simp at h

theorem natText_any (n : Nat) (h0 : n ≠ 0) (hn : n < lim) (v : Value) (S : Nat → Prop) (w : World) (h : Nt w v n S) :
    Calls Tryd.prog 63 #[v, .bool false, .int .i64 10] w fun e w' => ∃ ad c, e = .returned (.slice (some ad) (Lib.decDigits n).length c) ∧ (∀ j u, (Lib.byteCells (Lib.decDigits n))[j]? = some u → w'.cell? (ad.add j) = some u) ∧ Below w.heap.size w w' := by
  have h1 := len_lim hn
  have h2 := rv_lim hn
  obtain ⟨k, hk⟩ := (text_f h0 (by omega) (by omega)).rounds
  have hV : Kd.V (Kd.int .u32) 84 w w.heap.size S v (dg n) := h
  obtain ⟨A, c, rfl, _, _⟩ := h.form
  refine (smallbig_nat_text.calls k S A c (dg n) false 10 (ints (Lib.decDigits n)) w hV ⟨by have := dg_len_pos h0; omega⟩ hk).mono ?_
  rintro e w' ⟨v0, rfl, hR, hB⟩
  obtain ⟨A1, c1, rfl, hl, hC⟩ := Kd.R_reads hR
  obtain ⟨e1, ad, rfl, hcells⟩ := c8_cells hC (dec_ne n)
  exact ⟨ad, c1, by rw [e1], hcells, hB⟩

theorem conv_bytes {w : World} {ad : Addr} {c : Nat} {l : List UInt8} (h : ∀ j u, (Lib.byteCells l)[j]? = some u → w.cell? (ad.add j) = some u) :
    (convert 23 9 (.slice (some ad) l.length c)).run Tryd.prog w = .ok (.string ⟨l.toArray⟩) w :=
  run_convert_bytes_back (P := Tryd.prog) w 23 9 5 ad c l Tryd.underlying23 Tryd.underlying5 Tryd.underlying9 (fun j hj => h j _ (by simp [Lib.byteCells, hj]))

set_option maxHeartbeats 1000000 in
set_option maxRecDepth 100000 in
theorem text_any (b n : Nat) (h0 : n ≠ 0) (hn : n < lim) (S : Nat → Prop) (w : World) (h : It w b n S) :
    Calls Tryd.prog 47 #[.pointer (some ⟨b, 0, none⟩), .int .i64 10] w fun e w' => e = .returned (.string ⟨(Lib.decDigits n).toArray⟩) ∧ Below w.heap.size w w' := by
  obtain ⟨v, hb, hN⟩ := h
  obtain ⟨A, c, rfl, hq1, hq2⟩ := hN.form
  obtain ⟨c0, c1, _, _⟩ := it_cells hb
  have HN := Lib.hid hN
  have HB := Lib.hid hb
  clear hN hb hq1 hq2
  go_enter Tryd.func47, Tryd.ntmps47
  go_wp2_with fail
  go_region_with (go_at_call 63; refine (natText_any n h0 hn (.slice A (dg n).length c) S _ ?_).mono ?_; exact Kd.V_drew HN.out; rintro e w1 ⟨ad1, cc1, rfl, hcl, hB⟩; have hcv := conv_bytes (c := cc1) hcl; have HBB := Lib.hid hB; clear hcl hB)
  all_goals (go_wp2; go_ret; exact ⟨rfl, ⟨HBB.out.os, HBB.out.tape, HBB.out.output, HBB.out.size, HBB.out.block⟩⟩)

/-- Appending a text's bytes to an empty row of the call's own. -/
theorem append_str_any {w : World} {base r cap : Nat} (s : List UInt8) (ho : w.ownsRow base 5 1 (.slice (some ⟨r, 0, none⟩) 0 cap) 0 []) (hbase : base ≤ w.heap.size) (hcap : 20 ≤ cap) (hl : s.length ≤ 1000000) :
    ∃ w2 r2 cap2, (Builtin.append_ #[23, 9] 23 #[.slice (some ⟨r, 0, none⟩) 0 cap, .string ⟨s.toArray⟩]).run Tryd.prog w = .ok (.slice (some ⟨r2, 0, none⟩) s.length cap2) w2 ∧
      w2.ownsRow base 5 1 (.slice (some ⟨r2, 0, none⟩) s.length cap2) s.length (Lib.byteCells s) ∧ Ch w w2 (fun k => k = r) ∧ (r2 = r ∨ w.heap.size ≤ r2) ∧ 20 ≤ cap2 := by
  by_cases hroom : s.length ≤ cap
  · obtain ⟨w2, hrun, ho2, hg⟩ := append_str_room s ho (by omega)
    simp only [Nat.zero_add, List.nil_append] at hrun ho2
    have hc : Ch w w2 (fun k => k = r) := Ch.of_grown hg (by intro k hk; cases hk; rfl)
    exact ⟨w2, r, cap, hrun, ho2, hc, .inl rfl, hcap⟩
  · obtain ⟨i0, hi, hz0, hz1, hz2⟩ := info_parts info5
    have hsz : (⟨s.toArray⟩ : ByteArray).size = s.length := by simp [ByteArray.size]
    have hrun := Lib.run_append_grow_string (P := Tryd.prog) w 23 9 23 5 i0 (.int .u8 0) Tryd.underlying23 Tryd.underlying9 hi hz0 ⟨r, 0, none⟩ 0 cap [] (by simp) (by simp) ⟨s.toArray⟩ (by rw [hsz]; omega) (by rw [hsz]; omega) (by rw [hz2]; exact growslice_fits (by omega) (by rw [hsz]; omega))
    rw [hsz] at hrun
    simp only [Nat.zero_add, strCells_mk] at hrun
    have hge := grownCap_ge w s.length cap 5
    have hcm : grownCap w s.length cap 5 ≤ maxLen := grownCap_le_maxLen w s.length cap 5 (by unfold maxLen; omega)
    refine ⟨_, _, _, hrun, ⟨by simp [Lib.byteCells], .inr ⟨w.heap.size, _, _, rfl, hbase, heap_alloc_new w.drew _, hge, hcm, ?_, ?_⟩⟩, ?_, .inr (Nat.le_refl _), by omega⟩
    · have hz1 : (Value.int IntKind.u8 0).cells.size = 1 := rfl
      simp only [Array.size_append, List.size_toArray, size_zeroCells, hz1, Lib.byteCells_length]
      simp; omega
    · simp only [Array.toList_append, List.append_assoc]
      have : (Lib.byteCells s).length = s.length * 1 := by simp [Lib.byteCells]
      rw [← this]
      simp
    · exact ((Ch.refl w (fun k => k = r)).drew).alloc _

set_option maxHeartbeats 1000000 in
set_option maxRecDepth 100000 in
/-- Append of the text onto an empty slice of the call's own. -/
theorem append_int (b n : Nat) (h0 : n ≠ 0) (hn : n < lim) (S : Nat → Prop) (base r cap : Nat) (w : World) (h : It w b n S) (ho : w.ownsRow base 5 1 (.slice (some ⟨r, 0, none⟩) 0 cap) 0 []) (hbase : base ≤ w.heap.size) (hcap : 20 ≤ cap) :
    Calls Tryd.prog 32 #[.pointer (some ⟨b, 0, none⟩), .slice (some ⟨r, 0, none⟩) 0 cap, .int .i64 10] w fun e w' => ∃ r2 cap2, e = .returned (.slice (some ⟨r2, 0, none⟩) (Lib.decDigits n).length cap2) ∧
      w'.ownsRow base 5 1 (.slice (some ⟨r2, 0, none⟩) (Lib.decDigits n).length cap2) (Lib.decDigits n).length (Lib.byteCells (Lib.decDigits n)) ∧ Ch w w' (fun k => k = r) ∧ (r2 = r ∨ w.heap.size ≤ r2) ∧ 20 ≤ cap2 := by
  have hT := text_any b n h0 hn S w h
  have HT := Lib.hid hT
  have HO := Lib.hid ho
  clear hT h ho
  go_enter Tryd.func32, Tryd.ntmps32
  go_wp2_with fail
  refine HT.out.mono ?_
  rintro e w1 ⟨rfl, hB⟩
  have hlt : r < w.heap.size := by have := own_lt HO.out r (by simp [Value.ownBlock]); exact this
  have ho1 : w1.ownsRow base 5 1 (.slice (some ⟨r, 0, none⟩) 0 cap) 0 [] := own_move HO.out (fun k hk => by
    have : r = k := by simpa [Value.ownBlock] using hk
    subst this; exact hB.block _ hlt)
  obtain ⟨w2, r2, cap2, hrun, ho2, hc, hr, hcap2⟩ := append_str_any (Lib.decDigits n) ho1 (Nat.le_trans hbase hB.size) hcap (by rw [dec_len h0]; have := rv_lim hn; omega)
  have HP := Lib.hid (show w2.ownsRow base 5 1 (.slice (some ⟨r2, 0, none⟩) (Lib.decDigits n).length cap2) (Lib.decDigits n).length (Lib.byteCells (Lib.decDigits n)) ∧ Ch w w2 (fun k => k = r) ∧ (r2 = r ∨ w.heap.size ≤ r2) ∧ 20 ≤ cap2 from
    ⟨ho2, (Ch.of_below' hB _).same hc, hr.imp id (fun h => Nat.le_trans hB.size h), hcap2⟩)
  clear hB ho1 ho2 hc hr hlt hcap2
  go_wp2_with (at_builtin; refine wpList_append_run rfl (.tmp 7) (.tmp 10) 23 9 rfl (.slice (some ⟨r, 0, none⟩) 0 cap) (.string ⟨(Lib.decDigits n).toArray⟩) _ w1 w2 rfl rfl hrun ?_)
  go_wp2
  go_ret
  exact ⟨r2, cap2, rfl, HP.out⟩
end Go.Proofs.YtiopgkdldkkonaaDoor

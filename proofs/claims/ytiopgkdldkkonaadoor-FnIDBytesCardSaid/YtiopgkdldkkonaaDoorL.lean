/-
  WALK: laws.FnIDBytes.
-/
import Derived.Test.YtiopgkdldkkonaaDoorF
namespace Go.Proofs.YtiopgkdldkkonaaDoor
open Go.RowKit Go.Proofs.YtiopgkdldkkonaaDoorW.PrintWords Go.Proofs.YtiopgkdldkkonaaDoor.Num Go.Proofs.YtiopgkdldkkonaaDoor.Pn
set_option linter.unusedVariables false
set_option linter.unusedSimpArgs false

abbrev Tab (w : World) : Prop := Lib.TabIs Tryd.prog w "internal/strconv.uint64pow10" .u64 Lib.pow10Tab
theorem isIDBytes_any (l : List UInt8) (hl : l.length ≤ 1000) (A : Option Addr) (c : Nat) (hc : l.length ≤ c) (w : World) (hC : (Kd.int .u8).C w A l.length (ints l)) :
    Calls Tryd.prog 6 #[.slice A l.length c] w fun e w' => e = .returned (.bool (okBytes l)) ∧ Drawn0 w w' := by
  obtain ⟨k, hk⟩ := (isID_f l (by omega)).rounds
  have := spec_IsIDBytes.calls k A c (ints l) (okBytes l) w (by rw [ints_len]; exact hC) (by rw [ints_len]; exact hc) hk
  rwa [ints_len] at this
theorem isID_any (l : List Int) (hl : l.length < 4611686018427387904) (A : Option Addr) (c : Nat) (hc : l.length ≤ c) (w : World) (hC : (Kd.int .i64).C w A l.length l) :
    ∃ b, (b = true → GoodID l) ∧ Calls Tryd.prog 7 #[.slice A l.length c] w fun e w' => e = .returned (.bool b) ∧ Drawn0 w w' := by
  obtain ⟨b, hb, hg⟩ := isIDl_f l hl
  obtain ⟨k, hk⟩ := hb.rounds
  exact ⟨b, hg, spec_IsID.calls k A c l b w hC hc hk⟩
theorem figures_any (n : Nat) (hn : n < 1000000000) (w : World) :
    Calls Tryd.prog 8 #[.int .i64 n] w fun e w' => e = .returned (.string ⟨(Lib.decDigits n).toArray⟩) ∧ Drawn0 w w' := by
  obtain ⟨k, hk⟩ := (figures_f n hn).rounds
  exact laws_figures.calls k n _ w hk
theorem c42 (w : World) : (Kd.int .u8).C (w.alloc (.cells #[.int .u8 42, .int .u8 3] 5)) (some ⟨w.heap.size, 0, none⟩) 2 (ints [42, 3]) := by
  have h : Kd.R (Kd.int .u8) 5 (w.alloc (.cells #[.int .u8 42, .int .u8 3] 5)) w.heap.size (fun _ => True) (.slice (some ⟨w.heap.size, 0, none⟩) 2 2) (ints [42, 3]) :=
    Kd.R_of_own (enc := Value.int .u8) ⟨by simp [ints, encs], .inr ⟨w.heap.size, 2, #[.int .u8 42, .int .u8 3], rfl, Nat.le_refl _, heap_alloc_new w _, by simp [ints], by unfold maxLen; omega, by simp, rfl⟩⟩ (fun _ _ => trivial)
  exact (c8_of_R (l := [42, 3]) h).2
theorem ok42 : okBytes [42, 3] = true := by decide

theorem Drawn0.below {w w1 : World} (h : Drawn0 w w1) : Below w.heap.size w w1 := by
  exact h.below
theorem dots_snoc (l : List Nat) (x : Nat) : dots (l ++ [x]) = dots l ++ [46] ++ Lib.decDigits x := by
  induction l with
  | nil => simp [dots]
  | cons y l ih => simp only [List.cons_append, dots, ih]; simp
theorem joinDots_snoc {l : List Nat} (h : l ≠ []) (x : Nat) : joinDots (l ++ [x]) = joinDots l ++ [46] ++ Lib.decDigits x := by
  cases l with
  | nil => exact absurd rfl h
  | cons y l => simp only [List.cons_append, joinDots, dots_snoc]; simp
theorem joinDots_take {l : List Nat} {i : Nat} (hi : i < l.length) (h0 : i ≠ 0) : joinDots (l.take (i + 1)) = joinDots (l.take i) ++ [46] ++ Lib.decDigits l[i] := by
  rw [List.take_succ_eq_append_getElem hi]
  exact joinDots_snoc (by intro h; rw [List.take_eq_nil_iff] at h; rcases h with h | h; omega; (subst h; simp at hi)) _
theorem joinDots_one {l : List Nat} (hi : 0 < l.length) : joinDots (l.take 1) = Lib.decDigits l[0] := by
  cases l with
  | nil => simp at hi
  | cons y l => simp [joinDots, dots]
theorem dec_9 {n : Nat} (h : n < 1000000000) : (Lib.decDigits n).length ≤ 2000 := dec_le (Nat.lt_trans (show n < 128 ^ 5 by omega) (by unfold lim; decide))
theorem dots_len {l : List Nat} (h : ∀ x ∈ l, x < 1000000000) : (dots l).length ≤ 2001 * l.length := by
  induction l with
  | nil => simp [dots]
  | cons x l ih =>
    have h1 := dec_9 (h x (by simp))
    have h2 := ih (fun y hy => h y (by simp [hy]))
    simp only [dots, List.length_append, List.length_cons, List.length_nil]
    omega
theorem joinDots_len {l : List Nat} (h : ∀ x ∈ l, x < 1000000000) : (joinDots l).length ≤ 2001 * l.length := by
  cases l with
  | nil => simp [joinDots]
  | cons x l =>
    have h1 := dec_9 (h x (by simp))
    have h2 := dots_len (l := l) (fun y hy => h y (by simp [hy]))
    simp only [joinDots, List.length_append, List.length_cons]
    omega
theorem str_cat (a b : List UInt8) : (⟨a.toArray⟩ : ByteArray) ++ ⟨b.toArray⟩ = ⟨(a ++ b).toArray⟩ := by
  apply ByteArray.ext
  rw [ByteArray.data_append]
  simp

theorem str_cat3 (a b : List UInt8) : (⟨a.toArray⟩ : ByteArray) ++ ⟨#[46]⟩ ++ ⟨b.toArray⟩ = ⟨(a ++ [46] ++ b).toArray⟩ := by
  rw [← str_cat, ← str_cat]
theorem idEnc_len {a b : Nat} {t : List Nat} (ha : a ≤ 2) (hb : b < 268435456) (ht : ∀ x ∈ t, x < 268435456) (htl : t.length ≤ 10) : (idEnc a b t).length ≤ 100 := by
  have h1 := enc_len (n := 40 * a + b) (by omega)
  have h2 := encAll_len ht
  unfold idEnc
  rw [List.length_append]; omega

set_option maxHeartbeats 8000000 in
set_option maxRecDepth 100000 in
theorem law_any (l : List Int) (A0 : Option Addr) (c0 : Nat) (bl : List UInt8) (A1 : Option Addr) (c1 : Nat) (w : World) (hl : l.length ≤ c0) (hc0 : c0 ≤ 9223372036854775807) (hb : bl.length ≤ c1) (hc1 : c1 ≤ 9223372036854775807)
    (hL : (Kd.int .i64).C w A0 l.length l) (hA : l ≠ [] → ∃ b off, A0 = some ⟨b, off, none⟩) (hB : (Kd.int .u8).C w A1 bl.length (ints bl)) (htab : Tab w) :
    Calls Tryd.prog 3 #[.slice A0 l.length c0, .slice A1 bl.length c1] w fun e w' => e = .returned (.bool true) ∧ Below w.heap.size w w' := by
  have HL := Lib.hid hL
  have HA := Lib.hid hA
  have HB := Lib.hid hB
  have HT := Lib.hid htab
  clear hL hA hB htab
  by_cases hbig : 2147483647 < l.length
  · have hbig' : 2147483647 < (l.length : Int) := by omega
    go_enter Tryd.func3, Tryd.ntmps3
    go_wp2
    go_ret
    exact ⟨rfl, Below.refl _ _⟩
  · have hbig' : ¬ (2147483647 < (l.length : Int)) := by omega
    by_cases hbig2 : 2147483647 < bl.length
    · have hbig2' : 2147483647 < (bl.length : Int) := by omega
      go_enter Tryd.func3, Tryd.ntmps3
      go_wp2
      go_ret
      exact ⟨rfl, Below.refl _ _⟩
    · have hbig2' : ¬ (2147483647 < (bl.length : Int)) := by omega
      go_enter Tryd.func3, Tryd.ntmps3
      go_wp2_with fail
      refine (oidBytes_any [42, 3] (by decide) _ 2 _ (c42 w) (Lib.tabIs_alloc HT.out _)).mono ?_
      rintro e w1 hO
      unfold ObPost at hO
      rw [if_pos ok42] at hO
      obtain ⟨hB1, A2, c2, rfl, hR2⟩ := hO
      have HW1 : Hid (Below w.heap.size w w1) := Lib.hid (((Below.refl w.heap.size w).alloc (Nat.le_refl _) _).trans (hB1.mono (by simp)))
      clear hB1 hR2
      go_upto_if 34 with fail
      go_cut [8, 9, 10] (fun s8 s9 s10 wx => Below w.heap.size w wx)
      case first =>
        by_cases h50 : bl.length < 50
        · have h50' : (bl.length : Int) < 50 := by omega
          have hC1 := c8_below HB.out HW1.out
          have HC1 := Lib.hid hC1
          clear hC1
          go_wp2_with fail
          refine (oidBytes_any bl (by omega) A1 c1 w1 HC1.out (tabIs_below HT.out HW1.out)).mono ?_
          rintro e w2 hO
          unfold ObPost at hO
          by_cases ho : okBytes bl = true
          · rw [if_pos ho] at hO
            obtain ⟨hB2, A3, c3, rfl, hR3⟩ := hO
            have HW2 := Lib.hid (below_then HW1.out HW1.out.size hB2)
            have HC2 := Lib.hid (c8_below HC1.out hB2)
            have HR3 := Lib.hid hR3
            clear hB2 hR3
            obtain ⟨ad1, rfl, hcl1⟩ := c8_some HC2.out (okBytes_ne ho)
            obtain ⟨ad3, rfl, hcl3⟩ := c8_some (c8_of_R HR3.out).2 (okBytes_ne ho)
            have HCL := Lib.hid (And.intro hcl1 hcl3)
            clear hcl1 hcl3
            go_wp2_with fail
            refine (isIDBytes_any bl (by omega) (some ad1) c1 hb w2 HC2.out).mono ?_
            rintro e w3 ⟨rfl, hD⟩
            rw [ho]
            have hW3 : Below w.heap.size w w3 := HW2.out.trans (hD.below.mono HW2.out.size)
            have hcv1 := conv_bytes (w := w3) (ad := ad1) (c := c1) (l := bl) (fun j u hj => (hD.below.cell (World.block_lt_of_cell? _ _ (HCL.out.1 j u hj))).trans (HCL.out.1 j u hj))
            have hcv3 := conv_bytes (w := w3) (ad := ad3) (c := c3) (l := bl) (fun j u hj => (hD.below.cell (World.block_lt_of_cell? _ _ (HCL.out.2 j u hj))).trans (HCL.out.2 j u hj))
            have HW3 := Lib.hid hW3
            clear hD hW3
            go_wp2_with fail
            go_meet
            exact HW3.out
          · rw [if_neg ho] at hO
            obtain ⟨hB2, rfl⟩ := hO
            have HW2 := Lib.hid (below_then HW1.out HW1.out.size hB2)
            have HC2 := Lib.hid (c8_below HC1.out hB2)
            clear hB2
            go_wp2_with fail
            refine (isIDBytes_any bl (by omega) A1 c1 hb w2 HC2.out).mono ?_
            rintro e w3 ⟨rfl, hD⟩
            rw [Bool.eq_false_iff.2 ho]
            have HW3 := Lib.hid (HW2.out.trans (hD.below.mono HW2.out.size))
            clear hD
            go_wp2_with fail
            go_meet
            exact HW3.out
        · have h50' : ¬ ((bl.length : Int) < 50) := by omega
          go_wp2_with fail
          go_meet
          exact HW1.out
      case rest =>
        have HWC := Lib.hid hcut
        obtain ⟨bG, hgood, hcall⟩ := isID_any l (by omega) A0 c0 hl wc (Kd.C_below HL.out hcut)
        have HG := Lib.hid hgood
        have HCALL := Lib.hid hcall
        clear hcut hgood hcall
        go_wp2_with fail
        refine HCALL.out.mono ?_
        rintro e w2 ⟨rfl, hD⟩
        have HW2 := Lib.hid (HWC.out.trans (hD.below.mono HWC.out.size))
        clear hD
        cases bG with
        | false =>
          go_wp2
          go_ret
          exact ⟨rfl, HW2.out⟩
        | true =>
          obtain ⟨a, b, t, rfl, ha, hab, hb28, ht, htl⟩ := HG.out rfl
          have hnl : (nats (a :: b :: t)).length = t.length + 2 := by simp [nats]
          obtain ⟨b0, off, hA0⟩ := HA.out (by simp [nats])
          subst hA0
          have hcells : ∀ j (hj : j < (a :: b :: t).length), w.cell? ⟨b0, off + j, none⟩ = some (.int .i64 (((a :: b :: t)[j] : Nat) : Int)) := fun j hj => by
            obtain ⟨_, ad, had, hc⟩ := n_cells HL.out (by simp)
            injection had with had
            subst had
            have := hc j hj
            rwa [Go.WideShapes.add_plain] at this
          have hall : ∀ x ∈ a :: b :: t, x < 1000000000 := fun x hx => by
            rcases List.mem_cons.1 hx with rfl | hx
            · omega
            · rcases List.mem_cons.1 hx with rfl | hx
              · omega
              · have := ht x hx; omega
          obtain ⟨ns, hns⟩ : ∃ ns, ns = a :: b :: t := ⟨_, rfl⟩
          have hnsl : ns.length = t.length + 2 := by rw [hns]; simp
          rw [← hns] at hcells hall
          have HNS := Lib.hid hns
          have HC := Lib.hid hcells
          have HALL := Lib.hid hall
          have HNL := Lib.hid hnsl
          rw [hnl]
          rw [hnl] at hl
          have hl12 : t.length + 2 ≤ 12 := by omega
          clear hns hcells hall hnl hnsl HG HCALL hbig hbig'
          generalize hn : t.length + 2 = n at *
          have HN := Lib.hid hn
          clear hn
          go_wp2_with fail
          go_loopg [11, 61] (n) (fun gk s11 s61 wr => ∃ i : Nat, i ≤ n ∧ gk = n - i ∧ s61 = .int .i64 i ∧ s11 = .string ⟨(joinDots (ns.take i)).toArray⟩ ∧ Below w.heap.size w wr)
          case atStart => exact ⟨0, Nat.zero_le _, rfl, rfl, by simp [joinDots], HW2.out⟩
          case round =>
            obtain ⟨i, hi, rfl, rfl, rfl, hBr⟩ := hrel
            have HBR := Lib.hid hBr
            clear hBr
            by_cases hin : i < n
            · obtain ⟨x, hx⟩ : ∃ x, x = ns[i]'(by rw [HNL.out]; exact hin) := ⟨_, rfl⟩
              have hx9 : x < 1000000000 := by rw [hx]; exact HALL.out _ (List.getElem_mem _)
              have cx : wr.cell? ⟨b0, off + i, none⟩ = some (.int .i64 (x : Int)) := by
                have h := HC.out i (by rw [HNL.out]; exact hin)
                rw [hx]
                exact (HBR.out.cell (World.block_lt_of_cell? _ _ h)).trans h
              obtain ⟨pre, hpre⟩ : ∃ pre, pre = joinDots (ns.take i) := ⟨_, rfl⟩
              have hpl : pre.length ≤ 100000 := by
                have := joinDots_len (l := ns.take i) (fun y hy => HALL.out y (List.mem_of_mem_take hy))
                have h3 : (ns.take i).length ≤ 12 := by rw [List.length_take, HNL.out]; omega
                rw [hpre]; omega
              rw [← hpre]
              have hxl := dec_9 hx9
              have HP := Lib.hid hpre
              have HXX := Lib.hid hx
              have HI := Lib.hid hin
              clear hpre hx
              by_cases hi0 : i = 0
              · have hsum : joinDots (ns.take (i + 1)) = pre ++ Lib.decDigits x := by
                  rw [HXX.out, HP.out]
                  subst hi0
                  rw [joinDots_one (by rw [HNL.out]; omega)]; simp [joinDots]
                have HS := Lib.hid hsum
                have hsz : (⟨pre.toArray⟩ : ByteArray).size + (⟨(Lib.decDigits x).toArray⟩ : ByteArray).size ≤ 9223372036854775807 := by
                  simp only [ByteArray.size, List.size_toArray]; omega
                have HSZ := Lib.hid hsz
                clear hsum hsz
                subst hi0
                have cx0 : wr.cell? ⟨b0, off, none⟩ = some (.int .i64 (x : Int)) := cx
                have hlt0 : (0 : Int) < (n : Int) := by omega
                clear hi cx
                go_wp2_with fail
                refine (figures_any x hx9 _).mono ?_
                rintro e w3 ⟨rfl, hD⟩
                have HB3 := Lib.hid (HBR.out.trans (hD.below.mono HBR.out.size))
                clear hD
                go_wp2_with fail
                go_roundg (n - 1)
                case measure => omega
                case rel => exact ⟨1, by omega, rfl, rfl, by rw [HS.out, ← str_cat], HB3.out⟩
              · have hi1 : 0 < (i : Int) := by omega
                have hlt0 : (i : Int) < (n : Int) := by omega
                have hsum : joinDots (ns.take (i + 1)) = pre ++ [46] ++ Lib.decDigits x := by
                  rw [HXX.out, HP.out]
                  exact joinDots_take (by rw [HNL.out]; exact hin) hi0
                have HS := Lib.hid hsum
                have hcat1 : (⟨pre.toArray⟩ : ByteArray) ++ ⟨#[46]⟩ = ⟨(pre ++ [46]).toArray⟩ := str_cat pre [46]
                have hsz1 : (⟨pre.toArray⟩ : ByteArray).size + (⟨#[46]⟩ : ByteArray).size ≤ 9223372036854775807 := by
                  simp only [ByteArray.size, List.size_toArray]; simp; omega
                have HSZ1 := Lib.hid hsz1
                have HCAT1 := Lib.hid hcat1
                clear hsum hcat1 hsz1
                go_wp2_with fail
                refine (figures_any x hx9 _).mono ?_
                rintro e w3 ⟨rfl, hD⟩
                have HB3 := Lib.hid (HBR.out.trans (hD.below.mono HBR.out.size))
                clear hD
                go_wp2_with fail
                go_roundg (n - (i + 1))
                case measure => omega
                case rel => exact ⟨i + 1, by omega, rfl, by go_num, by rw [HS.out, ← str_cat3], HB3.out⟩
            · have hin' : i = n := by omega
              have htk : ns.take i = ns := List.take_of_length_le (by rw [HNL.out]; omega)
              rw [htk, HNS.out]
              have hge : ¬ ((i : Int) < (n : Int)) := by omega
              have hid : Calls Tryd.prog 9 #[.slice (some ⟨b0, off, none⟩) n c0] wr fun e w' => ∃ A5 c5, e = .returned (.slice A5 (idEnc a b t).length c5) ∧ Kd.R (Kd.int .u8) 5 w' wr.heap.size (fun _ => True) (.slice A5 (idEnc a b t).length c5) (ints (idEnc a b t)) ∧ Below wr.heap.size wr w' := by
                rw [← HN.out]
                refine idBytes_any a b t b0 off c0 wr (fun j hj => ?_) (by have := HN.out; omega) ha hb28 ht htl
                have hns := HNS.out
                subst hns
                have h := HC.out j hj
                exact (HBR.out.cell (World.block_lt_of_cell? _ _ h)).trans h
              have HID := Lib.hid hid
              have hdl := idEnc_len ha hb28 ht htl
              have hok := idEnc_ok a b t
              have htx := idEnc_text t ha hab
              obtain ⟨der, hder⟩ : ∃ der, der = idEnc a b t := ⟨_, rfl⟩
              obtain ⟨txt, htxt⟩ : ∃ txt, txt = joinDots (a :: b :: t) := ⟨_, rfl⟩
              rw [← hder] at HID hdl hok htx
              rw [← htxt] at htx ⊢
              have HOK := Lib.hid (And.intro hok htx)
              have HDL := Lib.hid hdl
              clear hid hdl hok htx hder htxt ha hab hb28 ht htl htk hi
              go_wp2_with fail
              refine HID.out.mono ?_
              rintro e w5 ⟨A5, c5, rfl, hR5, hB5⟩
              obtain ⟨hc5, hC5⟩ := c8_of_R hR5
              have HW5 := Lib.hid (HBR.out.trans (hB5.mono HBR.out.size))
              obtain ⟨ad5, rfl, hcl5⟩ := c8_some hC5 (okBytes_ne HOK.out.1)
              have HC5 := Lib.hid (And.intro hC5 hcl5)
              clear hR5 hB5 hC5 hcl5 hc5 hin' hge
              go_wp2_with fail
              refine (oidBytes_any der (by have := HDL.out; omega) (some ad5) c5 w5 HC5.out.1 (tabIs_below HT.out HW5.out)).mono ?_
              rintro e w6 hO
              unfold ObPost at hO
              rw [if_pos HOK.out.1, HOK.out.2] at hO
              obtain ⟨hB6, A6, c6, rfl, hR6⟩ := hO
              obtain ⟨ad6, rfl, hcl6⟩ := c8_some (c8_of_R hR6).2 (okBytes_ne HOK.out.1)
              have hcv6 := conv_bytes (w := w6) (ad := ad6) (c := c6) (l := der) hcl6
              have hcv5 := conv_bytes (w := w6) (ad := ad5) (c := c5) (l := der) (fun j u hj => (hB6.cell (World.block_lt_of_cell? _ _ (HC5.out.2 j u hj))).trans (HC5.out.2 j u hj))
              have HW6 := Lib.hid (HW5.out.trans (hB6.mono HW5.out.size))
              clear hB6 hR6 hcl6
              go_wp2
              go_ret
              exact ⟨rfl, HW6.out⟩
end Go.Proofs.YtiopgkdldkkonaaDoor

/-
  WALKS: strconv.AppendUint at base 10 onto an empty slice of the call's own with room for twenty bytes: the digits stand in that very row, and no other block is written.
-/
import Derived.Test.YtiopgkdldkkonaaDoorZB
import Derived.Test.YtiopgkdldkkonaaDoorShelf
import Derived.Lib.ItoaWalk
import Derived.Lib.ItoaMem
import Derived.Lib.AppendIntMem
import Derived.Lib.Slices
import Derived.Lib.Hide
import Derived.BigCall
import Derived.BigGuard
import Derived.CellFam
namespace Go.Proofs.YtiopgkdldkkonaaDoor
open Go.RowKit Go.Proofs.YtiopgkdldkkonaaDoorW.PrintWords Go.Sort Go.Lib
set_option linter.unusedVariables false

/-- Appending a text's bytes where there is room. -/
theorem append_str_room {w : World} {base r n cap : Nat} {xs : List Value} (s : List UInt8) (ho : w.ownsRow base 5 1 (.slice (some ⟨r, 0, none⟩) n cap) n xs) (hroom : n + s.length ≤ cap) :
    ∃ w2, (Builtin.append_ #[23, 9] 23 #[.slice (some ⟨r, 0, none⟩) n cap, .string ⟨s.toArray⟩]).run Tryd.prog w = .ok (.slice (some ⟨r, 0, none⟩) (n + s.length) cap) w2 ∧
      w2.ownsRow base 5 1 (.slice (some ⟨r, 0, none⟩) (n + s.length) cap) (n + s.length) (xs ++ Lib.byteCells s) ∧ w.grownBy w2 (some r) := by
  obtain ⟨i0, hi, hz0, hz1, hz2⟩ := info_parts info5
  have hsz : (⟨s.toArray⟩ : ByteArray).size = s.length := by simp [ByteArray.size]
  obtain ⟨cur, hbr, hr, hcm, hcs, htk⟩ : ∃ cur, base ≤ r ∧ w.heap[r]? = some (.cells cur 5 (0, 0)) ∧ cap ≤ maxLen ∧ cur.size = cap ∧ cur.toList.take n = xs := by
    rcases ho.2 with ⟨hv, _⟩ | ⟨g, cap', cur, hv, hb, hr, _, hcm, hcs, htk⟩
    · cases hv
    · injection hv with h1 h2 h3
      injection h1 with h1
      injection h1 with h1 _ _
      subst h1; subst h3
      exact ⟨cur, hb, hr, hcm, by simpa using hcs, by simpa using htk⟩
  have hrun := Lib.run_append_room_string (P := Tryd.prog) w 23 9 23 5 i0 Tryd.underlying23 Tryd.underlying9 hi hz1 r n cap cur hr ⟨s.toArray⟩ (by rw [hsz]; exact hroom) (by rw [hsz]; omega)
  rw [hsz, strCells_mk] at hrun
  refine ⟨_, hrun, ⟨?_, .inr ⟨r, cap, _, rfl, hbr, setRow_heap w r cur _ 5 (0, 0) hr, hroom, hcm, ?_, ?_⟩⟩, ⟨rfl, rfl, rfl, by simp, fun k _ hk => setRow_other w r k _ (fun e => hk (by rw [e]))⟩⟩
  · have := ho.1; simp [Lib.byteCells]; omega
  · have : cur.toList.length = cap := by simpa using hcs
    simp [Lib.byteCells]; omega
  · have : xs.length = n := by have := ho.1; omega
    rw [htk, Nat.mul_one, List.take_left' (by simp [Lib.byteCells]; omega)]

set_option maxHeartbeats 6400000 in
set_option maxRecDepth 100000 in
theorem appendUint_small (base nb cap u : Nat) (hu : u < 100) (w : World) (ho : w.ownsRow base 5 1 (.slice (some ⟨nb, 0, none⟩) 0 cap) 0 []) (hcap : 20 ≤ cap) :
    Calls Tryd.prog 48 #[.slice (some ⟨nb, 0, none⟩) 0 cap, .int .u64 u, .int .i64 10] w fun e w' => e = .returned (.slice (some ⟨nb, 0, none⟩) (Lib.decDigits u).length cap) ∧ w'.ownsRow base 5 1 (.slice (some ⟨nb, 0, none⟩) (Lib.decDigits u).length cap) (Lib.decDigits u).length (Lib.byteCells (Lib.decDigits u)) ∧ Ch w w' (fun k => k = nb) := by
  have hlen : (Lib.decDigits u).length ≤ 20 := by
    rw [Lib.decDigits_length]
    by_cases h10 : u < 10
    · rw [Lib.nDigits_small h10]; omega
    · rw [Lib.nDigits_big h10, Lib.nDigits_small (show u / 10 < 10 by omega)]; omega
  obtain ⟨w2, hrun, ho2, hg⟩ := append_str_room (Lib.decDigits u) ho (by omega)
  simp only [Nat.zero_add, List.nil_append] at hrun ho2
  have HO := Aside0.mk ho2
  have HG := Aside0.mk hg
  clear ho ho2 hg hlen
  go_enter Tryd.func48, Tryd.ntmps48
  go_wp2_with (first
    | (go_at_call 64; refine (Tryd.internal_strconv_small u hu _).mono ?_; rintro e w' ⟨rfl, rfl⟩)
    | (at_builtin; refine wpList_append_run rfl (.tmp 13) (.tmp 16) 23 9 rfl (.slice (some ⟨nb, 0, none⟩) 0 cap) (.string ⟨(Lib.decDigits u).toArray⟩) _ _ w2 rfl rfl hrun ?_))
  go_ret
  exact ⟨rfl, HO.out, Ch.of_grown HG.out (fun k hk => by injection hk with hk; exact hk.symm)⟩

set_option maxHeartbeats 12800000 in
set_option maxRecDepth 100000 in
theorem appendUint_big (base nb cap u : Nat) (hu : 100 ≤ u) (hu64 : u < 18446744073709551616) (w : World) (ho : w.ownsRow base 5 1 (.slice (some ⟨nb, 0, none⟩) 0 cap) 0 []) (hcap : 20 ≤ cap)
    (htab : Lib.TabIs Tryd.prog w "internal/strconv.uint64pow10" .u64 Lib.pow10Tab) :
    Calls Tryd.prog 48 #[.slice (some ⟨nb, 0, none⟩) 0 cap, .int .u64 u, .int .i64 10] w fun e w' => e = .returned (.slice (some ⟨nb, 0, none⟩) (Lib.decDigits u).length cap) ∧ w'.ownsRow base 5 1 (.slice (some ⟨nb, 0, none⟩) (Lib.decDigits u).length cap) (Lib.decDigits u).length (Lib.byteCells (Lib.decDigits u)) ∧ Ch w w' (fun k => k = nb) := by
  obtain ⟨i0, hi, hz0, hz1, hz2⟩ := info_parts info5
  have hu1 : 1 ≤ u := by omega
  have hnd20 : Lib.nDigits u ≤ 20 := by have := Lib.numDigits_eq u hu1 hu64; split at this <;> omega
  have hal : Tryd.prog.arrayLen 103 = 24 := by kernel_rfl
  have hsl : ∀ W, (Instr.sliceAt 103 (.pointer (some ⟨w.heap.size, 0, none⟩)) none (some (.int .i64 (Lib.nDigits u : Int))) none).run Tryd.prog W = .ok (.slice (some ⟨w.heap.size, 0, none⟩) (Lib.nDigits u) 24) W := fun W => by
    rw [run_sliceAt_array_h W 103 ⟨w.heap.size, 0, none⟩ (by kernel_rfl) .i64 (Lib.nDigits u : Int) (by omega) (by rw [hal]; omega)]
    go_simp
  have hH0 := Lib.holds_zero0 w 103 (Lib.nDigits u) (by omega)
  have hfmt := Tryd.internal_strconv_formatBase10 w.heap.size 0 24 u (Array.replicate (Lib.nDigits u) 0) (w.alloc (.cells Lib.zeros24 103)) hH0 (by rw [Array.size_replicate]; exact Lib.lt_pow_nDigits u) hu64 (by rw [Array.size_replicate]; omega)
  rw [Array.size_replicate] at hfmt
  have HH0 := Lib.hid hH0
  have iu : (100 : Int) ≤ (u : Int) := by omega
  clear hH0 hal
  have HO := Lib.hid ho
  clear ho
  go_enter Tryd.func48, Tryd.ntmps48
  go_wp2_with (first
    | (go_at_call 65; refine (Tryd.internal_strconv_numDigits u hu1 hu64 _ (Lib.tabIs_alloc htab _)).mono ?_; rintro e w' ⟨rfl, rfl⟩))
  go_at_call 66
  refine hfmt.mono ?_
  rintro e w' ⟨rfl, k, v', dk, rfl, hF⟩
  have hcells : ∀ j u', (Lib.byteCells (Lib.decDigits u))[j]? = some u' → ((putRow (fun (b : UInt8) => Value.int .u8 (b.toNat : Int)) (w.alloc (.cells Lib.zeros24 103)) w.heap.size 0 dk).drewN k).cell? ((⟨w.heap.size, 0, none⟩ : Addr).add j) = some u' := by
    intro j u' hj
    have hjl : j < (Lib.decDigits u).length := by
      have h5 := (List.getElem?_eq_some_iff.1 hj).1
      rwa [Lib.byteCells_length] at h5
    have e5 : (Lib.byteCells (Lib.decDigits u))[j]? = some (Value.int .u8 ((Lib.decDigits u)[j].toNat : Int)) := by simp [Lib.byteCells, hjl]
    rw [e5] at hj
    cases hj
    rw [Lib.row_is_numeral hF j hjl, Lib.add_plain, World.cell?_drewN]
    exact cell?_putRow (fun (b : UInt8) => Value.int .u8 (b.toNat : Int)) _ w.heap.size 0 _ dk HH0.out (by rw [hF.size, Array.size_replicate]) j (by rw [hF.size]; rw [Lib.decDigits_length] at hjl; exact hjl)
  obtain ⟨os, eo⟩ := Lib.fin_at w (.cells Lib.zeros24 103) dk k 0
  have hown2 : ((putRow (fun (b : UInt8) => Value.int .u8 (b.toNat : Int)) (w.alloc (.cells Lib.zeros24 103)) w.heap.size 0 dk).drewN k).ownsRow base 5 1 (.slice (some ⟨nb, 0, none⟩) 0 cap) 0 [] := by rw [eo]; exact Lib.ownsRow_grow HO.out k os
  have hnx2 : Below w.heap.size w ((putRow (fun (b : UInt8) => Value.int .u8 (b.toNat : Int)) (w.alloc (.cells Lib.zeros24 103)) w.heap.size 0 dk).drewN k) := by rw [eo]; exact Lib.below_grow w.heap.size w (Nat.le_refl _) k os
  generalize (putRow (fun (b : UInt8) => Value.int .u8 (b.toNat : Int)) (w.alloc (.cells Lib.zeros24 103)) w.heap.size 0 dk).drewN k = W2 at hcells hown2 hnx2 ⊢
  clear eo HH0 hfmt
  have HN := Aside0.mk hnx2
  have HW := Aside0.mk hown2
  clear hnx2
  go_wp2_with (at_builtin; refine wpList_append_fits W2 rfl _ _ 23 rfl base 5 i0 1 Tryd.underlying23 hi hz1 nb 0 cap [] rfl hown2 ⟨w.heap.size, 0, none⟩ (Lib.nDigits u) 24 (Lib.byteCells (Lib.decDigits u)) rfl ?c0 hcells ?c2 ?c3 ?_)
  case c0 => rw [Lib.byteCells_length, Lib.decDigits_length, Nat.mul_one]
  case c2 => intro u' hu'; simp only [Lib.byteCells, List.mem_map] at hu'; obtain ⟨b, _, rfl⟩ := hu'; rfl
  case c3 => omega
  intro w3 hown' hgrow
  have HO3 := Aside0.mk hown'
  have HG3 := Aside0.mk hgrow
  clear hown' hgrow hown2 hcells HO hF
  go_wp2
  go_ret
  refine ⟨?_, ?_, ?_⟩
  · rw [Lib.decDigits_length]; rfl
  · rw [Lib.decDigits_length]; exact HO3.out
  · exact (Ch.of_below' HN.out _).same (Ch.of_grown HG3.out (fun k hk => by injection hk with hk; exact hk.symm))

theorem appendUint_any (base nb cap u : Nat) (hu64 : u < 18446744073709551616) (w : World) (ho : w.ownsRow base 5 1 (.slice (some ⟨nb, 0, none⟩) 0 cap) 0 []) (hcap : 20 ≤ cap)
    (htab : Lib.TabIs Tryd.prog w "internal/strconv.uint64pow10" .u64 Lib.pow10Tab) :
    Calls Tryd.prog 34 #[.slice (some ⟨nb, 0, none⟩) 0 cap, .int .u64 u, .int .i64 10] w fun e w' => e = .returned (.slice (some ⟨nb, 0, none⟩) (Lib.decDigits u).length cap) ∧ w'.ownsRow base 5 1 (.slice (some ⟨nb, 0, none⟩) (Lib.decDigits u).length cap) (Lib.decDigits u).length (Lib.byteCells (Lib.decDigits u)) ∧ Ch w w' (fun k => k = nb) := by
  have h48 : Calls Tryd.prog 48 #[.slice (some ⟨nb, 0, none⟩) 0 cap, .int .u64 u, .int .i64 10] w fun e w' => e = .returned (.slice (some ⟨nb, 0, none⟩) (Lib.decDigits u).length cap) ∧ w'.ownsRow base 5 1 (.slice (some ⟨nb, 0, none⟩) (Lib.decDigits u).length cap) (Lib.decDigits u).length (Lib.byteCells (Lib.decDigits u)) ∧ Ch w w' (fun k => k = nb) := by
    by_cases h : u < 100
    · exact appendUint_small base nb cap u h w ho hcap
    · exact appendUint_big base nb cap u (by omega) hu64 w ho hcap htab
  have H := Lib.hid h48
  clear h48 ho htab
  go_enter Tryd.func34, Tryd.ntmps34
  go_wp2_with fail
  refine H.out.mono ?_
  rintro e w1 ⟨rfl, h1, h2⟩
  have H1 := Lib.hid h1
  have H2 := Lib.hid h2
  clear h1 h2
  go_wp2
  go_ret
  exact ⟨rfl, H1.out, H2.out⟩
end Go.Proofs.YtiopgkdldkkonaaDoor

/-
  WALK: spec.IDBytes.
-/
import Derived.Test.YtiopgkdldkkonaaDoorE
namespace Go.Proofs.YtiopgkdldkkonaaDoor
open Go.RowKit Go.Proofs.YtiopgkdldkkonaaDoorW.PrintWords Go.Proofs.YtiopgkdldkkonaaDoor.Num Go.Proofs.YtiopgkdldkkonaaDoor.Pn
set_option linter.unusedVariables false
set_option linter.unusedSimpArgs false

def nats (l : List Nat) : List Int := List.map (fun x : Nat => (x : Int)) l
def encAll (l : List Nat) : List UInt8 := (l.map enc).flatten
def idEnc (a b : Nat) (l : List Nat) : List UInt8 := enc (40 * a + b) ++ encAll l
theorem encAll_len {l : List Nat} (h : ∀ x ∈ l, x < 268435456) : (encAll l).length ≤ 5 * l.length := by
  unfold encAll
  induction l with
  | nil => simp
  | cons x l ih =>
    have h1 := enc_len (n := x) (by have := h x (by simp); omega)
    have h2 := ih (fun y hy => h y (by simp [hy]))
    simp only [List.map_cons, List.flatten_cons, List.length_append, List.length_cons]
    omega

/-- The cells of a slice of numbers. -/
theorem n_cells {w : World} {A : Option Addr} {n : Nat} {l : List Nat} (h : (Kd.int .i64).C w A n (nats l)) (hl : l ≠ []) :
    n = l.length ∧ ∃ ad, A = some ad ∧ ∀ j (hj : j < l.length), w.cell? (ad.add j) = some (.int .i64 (l[j] : Int)) := by
  obtain ⟨h1, h2, h3⟩ := h
  have hn : l.length = n := by simpa [nats] using h1
  obtain ⟨ad, rfl, hc⟩ := h3 (by have := List.length_pos_iff.2 hl; omega)
  refine ⟨hn.symm, ad, rfl, fun j hj => ?_⟩
  obtain ⟨c, hc1, hc2, hc3⟩ := hc j (l[j] : Int) (by simp [nats, hj])
  have hc2 : c = [.int .i64 (l[j] : Int)] := hc2
  have := hc3 0 (.int .i64 (l[j] : Int)) (by rw [hc2]; rfl)
  simpa [Kd.int, Kd.scalar] using this

theorem encAll_take {l : List Nat} {i : Nat} (h : i < l.length) : encAll (l.take (i + 1)) = encAll (l.take i) ++ enc l[i] := by
  unfold encAll
  rw [List.take_succ_eq_append_getElem h, List.map_append, List.flatten_append]
  simp only [List.map_cons, List.map_nil, List.flatten_cons, List.flatten_nil, List.append_nil]

set_option maxHeartbeats 4000000 in
set_option maxRecDepth 100000 in
theorem idBytes_any (n0 n1 : Nat) (rest : List Nat) (b off : Nat) (c : Nat) (w : World) (hc : ∀ j (hj : j < (n0 :: n1 :: rest).length), w.cell? ⟨b, off + j, none⟩ = some (.int .i64 (((n0 :: n1 :: rest)[j] : Nat) : Int))) (hcap : rest.length + 2 ≤ c)
    (h0 : n0 ≤ 2) (h1 : n1 < 268435456) (hr : ∀ x ∈ rest, x < 268435456) (hrl : rest.length ≤ 10) :
    Calls Tryd.prog 9 #[.slice (some ⟨b, off, none⟩) (rest.length + 2) c] w fun e w' => ∃ A1 c1, e = .returned (.slice A1 (idEnc n0 n1 rest).length c1) ∧ Kd.R (Kd.int .u8) 5 w' w.heap.size (fun _ => True) (.slice A1 (idEnc n0 n1 rest).length c1) (ints (idEnc n0 n1 rest)) ∧ Below w.heap.size w w' := by
  have hmf : ∀ (fn : Fn) (first cap : Array Value) (w : World), (Instr.makeFunc fn first cap).run Tryd.prog w = .ok (.func fn first cap) w := fun _ _ _ _ => rfl
  have hB1 : Below w.heap.size w (w.alloc (.cells #[.slice none 0 0] 23)) := (Below.refl _ w).alloc (Nat.le_refl _) _
  have q0 := hc 0 (by simp)
  have q1 := hc 1 (by simp)
  have k0 : (w.alloc (.cells #[.slice none 0 0] 23)).cell? ⟨b, off, none⟩ = some (.int .i64 (n0 : Int)) := (hB1.cell (World.block_lt_of_cell? _ _ q0)).trans q0
  have k1 : (w.alloc (.cells #[.slice none 0 0] 23)).cell? ⟨b, off + 1, none⟩ = some (.int .i64 (n1 : Int)) := (hB1.cell (World.block_lt_of_cell? _ _ q1)).trans q1
  have HC := Lib.hid hc
  clear hc q0 q1 hB1
  go_enter Tryd.func9, Tryd.ntmps9
  obtain ⟨N, hN⟩ : ∃ N, N = 40 * n0 + n1 := ⟨_, rfl⟩
  have hsum : 40 * (n0 : Int) + (n1 : Int) = (N : Int) := by omega
  have hN1 : N < 34359738368 := by omega
  have hwr : IntKind.i64.wrap (N : Int) = (N : Int) := by rw [IntKind.wrap_i64]; omega
  have hwr2 : IntKind.i64.wrap (IntKind.i64.wrap (40 * (n0 : Int)) + (n1 : Int)) = (N : Int) := by
    rw [IntKind.wrap_i64, IntKind.wrap_i64]; omega
  have hwr3 : IntKind.i64.wrap (40 * (n0 : Int) + (n1 : Int)) = (N : Int) := by
    rw [IntKind.wrap_i64]; omega
  have HN := Lib.hid hN
  clear hN
  have hput : ∀ wx : World, (wx.heap = (w.alloc (.cells #[.slice none 0 0] 23)).heap ∧ wx.os = w.os ∧ wx.tape = w.tape ∧ wx.output = w.output) → Calls Tryd.prog 17 #[.int .i64 N, .pointer (some ⟨w.heap.size, 0, none⟩)] wx fun e w' => e = .returned (.tuple #[]) ∧ Sv w' w.heap.size w.heap.size (enc N) ∧ Below w.heap.size w w' := by
    rintro wx ⟨hh, h1, h2, h3⟩
    have hb : Below w.heap.size w wx := ⟨h1, h2, h3, by rw [hh]; simp, fun k hk => by rw [hh]; exact Below.heap_alloc w _ k hk⟩
    refine (put_any w.heap.size w.heap.size N [] hN1 wx (by rw [hh]; simp) (Nat.le_refl _) ⟨none, 0, by rw [hh]; exact heap_alloc_new w _, Kd.R_nil _ _ _ _ _⟩ (by simp)).mono ?_
    rintro e w1 ⟨rfl, hS, hB⟩
    exact ⟨rfl, hS, hb.trans hB⟩
  have HPUT := Lib.hid hput
  clear hput
  go_wp2_with fail
  go_cut [] (fun wx => Sv wx w.heap.size w.heap.size (enc N) ∧ Below w.heap.size w wx)
  case first =>
    go_region_with (go_at_call 17; (first | rw [hwr2] | rw [hwr3] | skip); with_reducible refine Calls.mono (HPUT.out _ ⟨rfl, rfl, rfl, rfl⟩) ?_; rintro e w1 ⟨rfl, hS, hB⟩; have HP := Lib.hid (And.intro hS hB); clear hS hB)
    all_goals (go_wp2_with fail; go_meet; exact HP.out)
  case rest =>
    have HP := Lib.hid hcut
    have hb0 : Below w.heap.size w wc := hcut.2
    have hcells : ∀ j (hj : j < rest.length), wc.cell? ⟨b, off + 2 + j, none⟩ = some (.int .i64 ((rest[j] : Nat) : Int)) := fun j hj => by
      have h := HC.out (j + 2) (by simp; omega)
      have e : off + 2 + j = off + (j + 2) := by omega
      rw [e]
      exact (hb0.cell (World.block_lt_of_cell? _ _ h)).trans h
    have HCC := Lib.hid hcells
    clear hcut hb0 hcells
    by_cases hc2 : c = 2
    · have hr0 : rest.length = 0 := by omega
      have hre : idEnc n0 n1 rest = enc N := by
        have : rest = [] := List.length_eq_zero_iff.1 hr0
        rw [this, HN.out]; simp [idEnc, encAll]
      have HRE := Lib.hid hre
      obtain ⟨⟨A1, c1, hg, hR⟩, hB⟩ := HP.out
      have kg : wc.cell? ⟨w.heap.size, 0, none⟩ = some (.slice A1 (enc N).length c1) := by rw [Lib.cell_of_heap hg]; rfl
      have HQ := Lib.hid (And.intro hR hB)
      subst hc2
      clear hre hg hR hB
      go_wp2_with fail
      go_loopg [21] 1 (fun gk s21 wr => gk = 1 ∧ s21 = .int .i64 0 ∧ wr = wc)
      case atStart => exact ⟨rfl, rfl, rfl⟩
      case round =>
        obtain ⟨rfl, rfl, rfl⟩ := hrel
        go_wp2
        go_ret
        rw [HRE.out]
        exact ⟨A1, c1, rfl, HQ.out⟩
    · go_wp2_with fail
      go_loopg [21] rest.length (fun gk s21 wr => ∃ i : Nat, i ≤ rest.length ∧ gk = rest.length - i ∧ s21 = .int .i64 i ∧ Sv wr w.heap.size w.heap.size (enc N ++ encAll (rest.take i)) ∧ Below w.heap.size w wr)
      case atStart => exact ⟨0, Nat.zero_le _, rfl, rfl, by simpa [encAll] using HP.out.1, HP.out.2⟩
      case round =>
        obtain ⟨i, hi, rfl, rfl, hS, hB⟩ := hrel
        by_cases hin : i < rest.length
        · obtain ⟨x, hx⟩ : ∃ x, x = rest[i] := ⟨_, rfl⟩
          have hx28 : x < 268435456 := by rw [hx]; exact hr _ (List.getElem_mem hin)
          have cx : wr.cell? ⟨b, off + 2 + i, none⟩ = some (.int .i64 (x : Int)) := by
            have h := HC.out (i + 2) (by simp; omega)
            have e : off + 2 + i = off + (i + 2) := by omega
            rw [e, hx]
            exact (hB.cell (World.block_lt_of_cell? _ _ h)).trans h
          have hlen : (enc N ++ encAll (rest.take i)).length ≤ 1000 := by
            have h1 := enc_len (n := N) (by omega)
            have h2 := encAll_len (l := rest.take i) (fun y hy => hr y (List.mem_of_mem_take hy))
            have h3 : (rest.take i).length ≤ 10 := by simp; omega
            rw [List.length_append]; omega
          have hput : Calls Tryd.prog 17 #[.int .i64 x, .pointer (some ⟨w.heap.size, 0, none⟩)] wr fun e w' => e = .returned (.tuple #[]) ∧ Sv w' w.heap.size w.heap.size (enc N ++ encAll (rest.take (i + 1))) ∧ Below w.heap.size w w' := by
            refine (put_any w.heap.size w.heap.size x _ (by omega) wr hB.size (Nat.le_refl _) hS (by omega)).mono ?_
            rintro e w1 ⟨rfl, hS1, hB1⟩
            refine ⟨rfl, ?_, hB.trans hB1⟩
            rw [encAll_take hin, ← List.append_assoc, ← hx]
            exact hS1
          have HPUT2 := Lib.hid hput
          clear hput hS hB hx hlen
          go_wp2_with fail
          refine Calls.mono HPUT2.out ?_
          rintro e w1 ⟨rfl, hS1, hB1⟩
          have HQ := Lib.hid (And.intro hS1 hB1)
          clear hS1 hB1
          go_wp2_with fail
          go_roundg (rest.length - (i + 1))
          case measure => omega
          case rel => exact ⟨i + 1, by omega, rfl, by go_num, HQ.out⟩
        · obtain rfl : i = rest.length := by omega
          rw [List.take_of_length_le (Nat.le_refl _)] at hS
          have hre : idEnc n0 n1 rest = enc N ++ encAll rest := by rw [HN.out]; rfl
          obtain ⟨A1, c1, hg, hR⟩ := hS
          rw [← hre] at hg hR
          have kg : wr.cell? ⟨w.heap.size, 0, none⟩ = some (.slice A1 (idEnc n0 n1 rest).length c1) := by rw [Lib.cell_of_heap hg]; rfl
          have HQ := Lib.hid (And.intro hR hB)
          clear hre hg hR hB
          go_wp2
          go_ret
          exact ⟨A1, c1, rfl, HQ.out⟩
end Go.Proofs.YtiopgkdldkkonaaDoor

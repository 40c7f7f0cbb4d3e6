/-
  WALKS: UnmarshalBinary; MarshalBinary as a law on bytes.
-/
import Derived.Test.YtiopgkdldkkonaaDoorS2
import Derived.Test.YtiopgkdldkkonaaDoorV
import Derived.Test.YtiopgkdldkkonaaDoorPnx7
namespace Go.Proofs.YtiopgkdldkkonaaDoor
open Go.RowKit Go.Proofs.YtiopgkdldkkonaaDoorW.PrintWords Go.Proofs.YtiopgkdldkkonaaDoor.Num Go.Proofs.YtiopgkdldkkonaaDoor.Pn
set_option linter.unusedVariables false
set_option linter.unusedSimpArgs false

def badOID : Value := .iface 56 (.string ⟨#[105, 110, 118, 97, 108, 105, 100, 32, 111, 105, 100]⟩)
/-- What UnmarshalBinary leaves. -/
def UnPost (w : World) (b : Nat) (l : List UInt8) (e : Ending) (w' : World) : Prop :=
  if okBytes l = true then e = .returned .nilIface ∧ ∃ A c, w'.heap[b]? = some (.cells #[.slice A l.length c] 39 (0, 0)) ∧ Kd.R (Kd.int .u8) 5 w' w.heap.size (fun _ => True) (.slice A l.length c) (ints l) ∧ Ch w w' (fun k => k = b)
  else e = .returned badOID ∧ Below w.heap.size w w'

theorem c8_below {w w1 : World} {A : Option Addr} {n : Nat} {l : List Int} (h : (Kd.int .u8).C w A n l) (hb : Below w.heap.size w w1) : (Kd.int .u8).C w1 A n l := Kd.C_below h hb

theorem newOID_any (l : List UInt8) (hl : l.length ≤ 1000) (v : Value) (w0 w : World) (hB : Below w0.heap.size w0 w) (h : Kd.R (Kd.int .u8) 5 w w0.heap.size (fun _ => True) v (ints l)) :
    Calls Tryd.prog 23 #[v] w fun e w' => ∃ v0 : Value, e = .returned (.tuple #[.agg #[v0], .bool (okBytes l)]) ∧ Kd.R (Kd.int .u8) 5 w' w0.heap.size (fun _ => True) v0 (if okBytes l = true then ints l else []) ∧ Below w0.heap.size w0 w' := by
  obtain ⟨k, hk⟩ := (newOID_f l (by omega)).rounds
  unfold oidOut at hk
  by_cases ho : okBytes l = true
  · rw [if_pos ho] at hk
    refine (x509_newOIDFromDER.calls k _ v (ints l) (ints l) true w0 w hB h hk).mono ?_
    rintro e w' ⟨v0, he, h1, h2, h3⟩
    rw [ho, if_pos rfl]
    exact ⟨v0, he, Kd.R_mono h1 (fun _ _ => trivial), h2⟩
  · rw [if_neg ho] at hk
    refine (x509_newOIDFromDER.calls k _ v (ints l) [] false w0 w hB h hk).mono ?_
    rintro e w' ⟨v0, he, h1, h2, h3⟩
    rw [Bool.eq_false_iff.2 ho, if_neg (by simp)]
    exact ⟨v0, he, Kd.R_mono h1 (fun _ _ => trivial), h2⟩

set_option maxHeartbeats 4000000 in
set_option maxRecDepth 100000 in
theorem unmarshal_any (b : Nat) (x : Value) (l : List UInt8) (hl : l.length ≤ 1000) (A : Option Addr) (c : Nat) (w : World) (hb : w.heap[b]? = some (.cells #[x] 39 (0, 0))) (hC : (Kd.int .u8).C w A l.length (ints l)) :
    Calls Tryd.prog 14 #[.pointer (some ⟨b, 0, none⟩), .slice A l.length c] w fun e w' => UnPost w b l e w' := by
  have hu39 := Tryd.underlying39
  have HC := Lib.hid hC
  have HB := Lib.hid hb
  clear hC hb
  go_enter Tryd.func14, Tryd.ntmps14
  go_wp2_with (at_builtin; refine Kd.R_append_row (Value.int .u8) 0 (h1 := fun _ => rfl) (w0 := w) w.heap.size rfl (.const (.slice none 0 0)) (.tmp 8) 23 5 (.int .u8 0) 1 rfl Tryd.underlying23 info5 rfl (by decide) (.slice none 0 0) [] (ints l) A l.length c (fun _ => True) rfl rfl (fun _ _ => trivial) (Kd.R_nil _ _ _ _ _) HC.out (Below.refl _ _) (Nat.le_refl _) (by simp; omega) ?_)
  intro v1 w1 h1 hB1 hg1 hat1
  obtain ⟨A1, c1, rfl⟩ := Kd.R_slice h1
  have H1 := Lib.hid (And.intro h1 hB1)
  clear h1 hB1 hg1 hat1 HC
  go_wp2_with fail
  refine (newOID_any l hl _ w w1 H1.out.2 H1.out.1).mono ?_
  rintro e w2 ⟨v0, rfl, h2, hB2⟩
  obtain ⟨A2, c2, hv2, hc2, hC2⟩ := Kd.R_reads h2
  by_cases ho : okBytes l = true
  · rw [if_pos ho] at hv2 hc2 hC2 h2
    rw [ho]
    rw [ints_len] at hv2 hc2 hC2
    subst hv2
    have hb2 := (hB2.block b (blk_lt HB.out)).trans HB.out
    have H2 := Lib.hid (And.intro hB2 h2)
    have hlt2 : b < w2.heap.size := blk_lt hb2
    have e0 : ∀ o, (w2.alloc o).cell? ⟨b, 0, none⟩ = some x := fun o => by rw [World.cell?_alloc_old _ _ _ (Nat.ne_of_lt hlt2), Lib.cell_of_heap hb2]; rfl
    have f0 : ∀ o, (w2.alloc o).frozen? ⟨b, 0, none⟩ = false := fun o => by
      rw [Lib.frozen_of_heap (w := w2.alloc o) (b := b) ((Below.heap_alloc w2 o b hlt2).trans hb2) 0]
    have HB2 := Lib.hid hb2
    clear hB2 hC2 hc2 h2 hb2
    go_wp2
    go_ret
    have hb3 : ((w2.setCell ⟨b, 0, none⟩ (.slice A2 l.length c2)).alloc (.cells #[.slice A2 l.length c2] 39)).heap[b]? = some (.cells #[.slice A2 l.length c2] 39 (0, 0)) := by
      rw [Below.heap_alloc _ _ b (by simpa [World.setCell] using hlt2)]
      simp [World.setCell, Array.getElem?_modify, HB2.out]
    have hR3 := Kd.R_alloc (o := .cells #[.slice A2 l.length c2] 39) (Kd.R_set H2.out.2 HB2.out (by intro q hq; simp [Kd.int, Kd.scalar] at hq; subst hq; decide) 0 (.slice A2 l.length c2))
    unfold UnPost
    rw [if_pos ho]
    exact ⟨rfl, A2, c2, hb3, hR3, ((Ch.of_below' H2.out.1 (fun k => k = b)).setCell ⟨b, 0, none⟩ (fun _ => rfl) _).alloc _⟩
  · rw [if_neg ho] at hv2
    rw [Bool.eq_false_iff.2 ho]
    subst hv2
    have H2 := Lib.hid hB2
    clear hB2 hC2 hc2 h2
    go_wp2
    go_ret
    unfold UnPost
    rw [if_neg ho]
    exact ⟨rfl, H2.out.alloc H2.out.size _⟩

theorem c8_of_R {w : World} {base : Nat} {ok : Nat → Prop} {A : Option Addr} {c : Nat} {l : List UInt8} (h : Kd.R (Kd.int .u8) 5 w base ok (.slice A l.length c) (ints l)) : l.length ≤ c ∧ (Kd.int .u8).C w A l.length (ints l) := by
  obtain ⟨A1, c1, hv, hc, hC⟩ := Kd.R_reads h
  rw [ints_len] at hv hc hC
  injection hv with e1 e2 e3
  subst e1; subst e3
  exact ⟨hc, hC⟩

theorem marshal_any (l : List UInt8) (hl : l.length ≤ 1000) (A : Option Addr) (c : Nat) (hc : l.length ≤ c) (w : World) (hC : (Kd.int .u8).C w A l.length (ints l)) :
    Calls Tryd.prog 16 #[.agg #[.slice A l.length c]] w fun e w' => ∃ A1 c1, e = .returned (.tuple #[.slice A1 l.length c1, .nilIface]) ∧ Kd.R (Kd.int .u8) 5 w' w.heap.size (fun _ => True) (.slice A1 l.length c1) (ints l) ∧ Below w.heap.size w w' := by
  have h := x509_OID_MarshalBinary.calls A c (ints l) (ints l) none w (by rw [ints_len]; exact hC) (by rw [ints_len]; exact hc) (by
    unfold x509_OID_MarshalBinary.f x509_OID_AppendBinary.f
    rw [if_pos (by rw [ints_len]; simp; omega)]; simp)
  rw [ints_len] at h
  refine h.mono ?_
  rintro e w' ⟨v0, rfl, hR, hB⟩
  obtain ⟨A1, c1, rfl⟩ := Kd.R_slice hR
  rw [ints_len] at hR ⊢
  exact ⟨A1, c1, rfl, hR, hB⟩
end Go.Proofs.YtiopgkdldkkonaaDoor

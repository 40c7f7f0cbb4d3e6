/-
  PLAIN LEAN: which bytes are an object identifier's: what the printed newOIDFromDER and IsIDBytes answer.
-/
import Derived.Test.YtiopgkdldkkonaaDoorZNat3
import Derived.Test.YtiopgkdldkkonaaDoorZP4
namespace Go.Proofs.YtiopgkdldkkonaaDoor.Num
open Go.Proofs.YtiopgkdldkkonaaDoorW.PrintWords Go.Proofs.YtiopgkdldkkonaaDoorW.PrintMore Go.RowKit Go.Proofs.YtiopgkdldkkonaaDoor.Pn
set_option linter.unusedVariables false
set_option linter.unusedSimpArgs false

def okGo : Bool → List UInt8 → Bool
  | s, [] => s
  | s, x :: t => if s = true ∧ x.toNat = 128 then false else okGo (decide (x.toNat < 128)) t
/-- The bytes are an object identifier's. -/
def okBytes (l : List UInt8) : Bool := if l = [] then false else okGo true l
def noBad : Bool → List UInt8 → Bool
  | _, [] => true
  | s, x :: t => if s = true ∧ x.toNat = 128 then false else noBad (decide (x.toNat < 128)) t
theorem okGo_eq (t : List UInt8) : ∀ s, okGo s t = (noBad s t && (match t.getLast? with | none => s | some x => decide (x.toNat < 128))) := by
  induction t with
  | nil => intro s; simp [okGo, noBad]
  | cons x t ih =>
    intro s
    simp only [okGo, noBad]
    by_cases h : s = true ∧ x.toNat = 128
    · rw [if_pos h, if_pos h]; rfl
    · rw [if_neg h, if_neg h, ih]
      cases t with
      | nil => simp
      | cons y t =>
        rw [List.getLast?_cons_cons]
        cases hz : (y :: t).getLast? with
        | none => simp at hz
        | some z => rfl

theorem ints_len (l : List UInt8) : (ints l).length = l.length := by simp [ints]
theorem rd_ints {l : List UInt8} {i : Nat} (h : i < l.length) : rd (ints l) (i : Int) = (l[i].toNat : Int) := by
  unfold rd ints
  rw [Int.toNat_natCast, List.getD_eq_getElem?_getD, List.getElem?_map, List.getElem?_eq_getElem h]
  rfl
set_option maxRecDepth 100000 in
theorem u8and128 : ∀ n : Nat, n < 256 → Go.bits .and .u8 (n : Int) 128 = if n < 128 then 0 else 128 := by decide

theorem isID_l0 (l : List UInt8) (hl : l.length < 4611686018427387904) : ∀ (d i : Nat) (s : Bool), i + d = l.length →
    Ev (fun k => spec_IsIDBytes.l0 k (ints l) s (ints l) (l.length : Int) (i : Int)) (if l = [] then false else okGo s (l.drop i)) := by
  intro d
  induction d with
  | zero =>
    intro i s hi
    obtain rfl : i = l.length := by omega
    refine Ev.step (f := fun _ => some (if l = [] then false else okGo s (l.drop l.length))) (fun k => ?_) (Ev.now _)
    simp only [spec_IsIDBytes.l0]
    rw [if_neg (by omega), ints_len, List.drop_length]
    by_cases h0 : l = []
    · rw [if_pos h0, if_neg (by simp [h0])]
    · have := List.length_pos_iff.2 h0
      rw [if_neg h0, if_pos (by omega)]; rfl
  | succ d ih =>
    intro i s hi
    have hlt : i < l.length := by omega
    have hne : l ≠ [] := by intro h; subst h; simp at hlt
    have hdr : l.drop i = l[i] :: l.drop (i + 1) := List.drop_eq_getElem_cons hlt
    have ihs := ih (i + 1) (decide (l[i].toNat < 128)) (by omega)
    rw [if_neg hne] at ihs ⊢
    rw [hdr, okGo]
    have hstep : ∀ k, spec_IsIDBytes.l0 (k + 1) (ints l) s (ints l) (l.length : Int) (i : Int) = if s = true ∧ l[i].toNat = 128 then some false else spec_IsIDBytes.l0 k (ints l) (decide (l[i].toNat < 128)) (ints l) (l.length : Int) ((i + 1 : Nat) : Int) := by
      intro k
      simp only [spec_IsIDBytes.l0]
      rw [if_pos (by omega), if_pos (by omega), if_pos (by rw [ints_len]; omega), rd_ints hlt, w64 (by omega) (by omega)]
      have hdd : decide ((l[i].toNat : Int) < 128) = decide (l[i].toNat < 128) := by
        rw [decide_eq_decide]; omega
      rw [hdd]
      cases s with
      | false => simp
      | true =>
        rw [if_pos rfl]
        by_cases h : l[i].toNat = 128
        · rw [if_pos (by omega), if_pos ⟨rfl, h⟩]
        · rw [if_neg (by omega), if_neg (by simp [h])]; rfl
    by_cases hb : s = true ∧ l[i].toNat = 128
    · refine Ev.step (f := fun _ => some false) (fun k => ?_) (by rw [if_pos hb]; exact Ev.now _)
      rw [hstep, if_pos hb]
    · rw [if_neg hb]
      refine Ev.step (f := fun k => spec_IsIDBytes.l0 k (ints l) (decide (l[i].toNat < 128)) (ints l) (l.length : Int) ((i + 1 : Nat) : Int)) (fun k => ?_) ihs
      rw [hstep, if_neg hb]
theorem isID_f (l : List UInt8) (hl : l.length < 4611686018427387904) : Ev (fun k => spec_IsIDBytes.f k (ints l)) (okBytes l) := by
  have h := isID_l0 l hl l.length 0 true (by omega)
  rw [List.drop_zero] at h
  refine Ev.congr (fun k => ?_) h
  unfold spec_IsIDBytes.f
  rw [ints_len]; rfl

def oidOut (l : List UInt8) (b : Bool) : List Int × Bool := if b = true then (ints l, true) else ([], false)
theorem newOID_l0 (l : List UInt8) (hl : l.length < 4611686018427387904) : ∀ (d i st : Nat), i + d = l.length → st ≤ i →
    Ev (fun k => x509_newOIDFromDER.l0 k (ints l) (st : Int) (ints l) (l.length : Int) (i : Int)) (oidOut l (noBad (decide (i = st)) (l.drop i))) := by
  intro d
  induction d with
  | zero =>
    intro i st hi hst
    obtain rfl : i = l.length := by omega
    refine Ev.step (f := fun _ => some (ints l, true)) (fun k => ?_) (by rw [List.drop_length]; exact Ev.now _)
    simp only [x509_newOIDFromDER.l0]
    rw [if_neg (by omega)]
  | succ d ih =>
    intro i st hi hst
    have hlt : i < l.length := by omega
    have hdr : l.drop i = l[i] :: l.drop (i + 1) := List.drop_eq_getElem_cons hlt
    rw [hdr, noBad]
    have hstep : ∀ k, x509_newOIDFromDER.l0 (k + 1) (ints l) (st : Int) (ints l) (l.length : Int) (i : Int) = x509_newOIDFromDER.j2 k (ints l) (st : Int) (i : Int) (l[i].toNat : Int) (ints l) (l.length : Int) (i : Int) (decide (i = st ∧ l[i].toNat = 128)) := by
      intro k
      simp only [x509_newOIDFromDER.l0]
      rw [if_pos (by omega), if_pos (by omega), if_pos (by rw [ints_len]; omega), rd_ints hlt]
      by_cases h : i = st
      · rw [if_pos (by omega)]
        congr 1
        rw [Bool.eq_iff_iff]
        simp [h]; omega
      · rw [if_neg (by omega)]
        congr 1
        simp [h]
    refine Ev.step hstep ?_
    have hx := l[i].toNat_lt
    by_cases hb : i = st ∧ l[i].toNat = 128
    · rw [if_pos (by simpa using hb)]
      refine Ev.step (f := fun _ => some ([], false)) (fun k => ?_) (Ev.now _)
      simp only [x509_newOIDFromDER.j2]
      rw [if_pos (by simpa using hb)]
    · rw [if_neg (by simpa using hb)]
      by_cases h128 : l[i].toNat < 128
      · have := ih (i + 1) (i + 1) (by omega) (Nat.le_refl _)
        rw [decide_eq_true (p := i + 1 = i + 1) rfl] at this
        rw [decide_eq_true h128]
        refine Ev.step (fun k => ?_) this
        simp only [x509_newOIDFromDER.j2]
        rw [if_neg (by simpa using hb), u8and128 _ (by omega), if_pos h128, if_pos rfl, w64 (by omega) (by omega)]
        rfl
      · have := ih (i + 1) st (by omega) (by omega)
        rw [decide_eq_false (p := i + 1 = st) (by omega)] at this
        rw [decide_eq_false h128]
        refine Ev.step (fun k => ?_) this
        simp only [x509_newOIDFromDER.j2]
        rw [if_neg (by simpa using hb), u8and128 _ (by omega), if_neg h128, if_neg (by decide), w64 (by omega) (by omega)]
        rfl
theorem newOID_f (l : List UInt8) (hl : l.length < 4611686018427387904) : Ev (fun k => x509_newOIDFromDER.f k (ints l)) (oidOut l (okBytes l)) := by
  by_cases h0 : l = []
  · subst h0
    refine Ev.step (f := fun _ => some ([], false)) (fun k => ?_) (Ev.now _)
    unfold x509_newOIDFromDER.f
    rw [if_pos (by simp [ints])]
    simp only [x509_newOIDFromDER.j0]; rfl
  · have hpos := List.length_pos_iff.2 h0
    have hlast : l.getLast? = some l[l.length - 1] := by rw [List.getLast?_eq_getElem?, List.getElem?_eq_getElem (by omega)]
    have hx := l[l.length - 1].toNat_lt
    have hf : ∀ k, x509_newOIDFromDER.f k (ints l) = x509_newOIDFromDER.j0 k (ints l) (decide (¬ l[l.length - 1].toNat < 128)) := by
      intro k
      unfold x509_newOIDFromDER.f
      rw [ints_len, if_neg (by omega), w64 (by omega) (by omega), if_pos (by omega), if_pos (by omega), show (l.length : Int) - 1 = ((l.length - 1 : Nat) : Int) from by omega, rd_ints (by omega), u8and128 _ (by omega)]
      by_cases h : l[l.length - 1].toNat < 128
      · rw [if_pos h, decide_eq_false (by omega)]; rfl
      · rw [if_neg h, decide_eq_true h]; rfl
    refine Ev.congr hf ?_
    unfold okBytes
    rw [if_neg h0, okGo_eq, hlast]
    by_cases h : l[l.length - 1].toNat < 128
    · have hm := newOID_l0 l hl l.length 0 0 (by omega) (Nat.le_refl _)
      rw [List.drop_zero, decide_eq_true (p := (0 : Nat) = 0) rfl] at hm
      simp only [h, decide_true, Bool.and_true, not_true, decide_false]
      refine Ev.step (fun k => ?_) hm
      simp only [x509_newOIDFromDER.j0]
      rw [if_neg (by simp), ints_len]; rfl
    · simp only [h, decide_false, Bool.and_false, not_false_eq_true, decide_true]
      refine Ev.step (f := fun _ => some ([], false)) (fun k => ?_) (Ev.now _)
      simp only [x509_newOIDFromDER.j0]; rfl
end Go.Proofs.YtiopgkdldkkonaaDoor.Num

/-
  PLAIN LEAN: what ParseOID takes, its bytes, and the text that they tell.
  PLAIN LEAN: what the printed labels and spec.IDText answer.
  PLAIN LEAN: ParseOID takes just the texts that spec.IDText takes, where no number has a nought ahead.
-/
import Derived.Test.YtiopgkdldkkonaaDoorZY
import Derived.Test.YtiopgkdldkkonaaDoorZE
import Derived.Test.YtiopgkdldkkonaaDoorZP5
namespace Go.Proofs.YtiopgkdldkkonaaDoor
open Go.RowKit Go.Proofs.YtiopgkdldkkonaaDoor.Num
set_option linter.unusedVariables false
set_option linter.unusedSimpArgs false

/-! ### pieces -/
theorem pieces_sum (l : List UInt8) : ((pieces l).map List.length).sum + (pieces l).length = l.length + 1 := by
  induction l with
  | nil => simp [pieces]
  | cons x l ih =>
    unfold pieces
    by_cases h : x = 46
    · rw [if_pos h]; simp; omega
    · rw [if_neg h]
      obtain ⟨p, t, hp⟩ : ∃ p t, pieces l = p :: t := by
        cases hq : pieces l with
        | nil => exact absurd hq (pieces_ne l)
        | cons p t => exact ⟨p, t, rfl⟩
      rw [hp] at ih ⊢
      simp at ih ⊢; omega
theorem pieces_mem (l : List UInt8) : ∀ p ∈ pieces l, ∀ x ∈ p, x ∈ l ∧ x ≠ 46 := by
  induction l with
  | nil => intro p hp x hx; simp [pieces] at hp; subst hp; simp at hx
  | cons y l ih =>
    intro p hp x hx
    unfold pieces at hp
    by_cases h : y = 46
    · rw [if_pos h] at hp
      rcases List.mem_cons.1 hp with rfl | hp
      · simp at hx
      · have := ih p hp x hx; exact ⟨by simp [this.1], this.2⟩
    · rw [if_neg h] at hp
      obtain ⟨q, t, hq⟩ : ∃ p t, pieces l = p :: t := by
        cases hq : pieces l with
        | nil => exact absurd hq (pieces_ne l)
        | cons p t => exact ⟨p, t, rfl⟩
      rw [hq] at hp ih
      simp only [List.headD_cons, List.tail_cons] at hp
      rcases List.mem_cons.1 hp with rfl | hp
      · rcases List.mem_cons.1 hx with rfl | hx
        · exact ⟨by simp, h⟩
        · have := ih q (by simp) x hx; exact ⟨by simp [this.1], this.2⟩
      · have := ih p (by simp [hp]) x hx; exact ⟨by simp [this.1], this.2⟩
/-- The pieces, with points between. -/
def joinP : List (List UInt8) → List UInt8
  | [] => []
  | [p] => p
  | p :: q :: t => p ++ 46 :: joinP (q :: t)
theorem joinP_pieces (l : List UInt8) : joinP (pieces l) = l := by
  induction l with
  | nil => rfl
  | cons x l ih =>
    obtain ⟨q, t, hq⟩ : ∃ p t, pieces l = p :: t := by
      cases hq : pieces l with
      | nil => exact absurd hq (pieces_ne l)
      | cons p t => exact ⟨p, t, rfl⟩
    unfold pieces
    rw [hq] at ih ⊢
    by_cases h : x = 46
    · rw [if_pos h, joinP, ih, h]; rfl
    · rw [if_neg h]
      simp only [List.headD_cons, List.tail_cons]
      rw [← ih]
      cases t with
      | nil => rfl
      | cons r t => rfl

/-! ### a number and its figures -/
/-- No nought ahead. -/
def noZero (p : List UInt8) : Prop := p.length ≤ 1 ∨ p.head? ≠ some 48
theorem decVal_from_pos (t : List UInt8) : ∀ a, 0 < a → 0 < t.foldl (fun a (x : UInt8) => a * 10 + (x.toNat - 48)) a := by
  induction t with
  | nil => intro a h; exact h
  | cons x t ih => intro a h; exact ih _ (show 0 < a * 10 + (x.toNat - 48) by omega)
theorem decVal_pos {y : UInt8} {t : List UInt8} (h : isDig y) (hy : y ≠ 48) : 0 < decVal (y :: t) := by
  unfold decVal
  unfold isDig at h
  refine decVal_from_pos t _ ?_
  have : y.toNat ≠ 48 := fun e => hy (UInt8.toNat_inj.1 e)
  show 0 < 0 * 10 + (y.toNat - 48)
  omega
theorem snoc_or {α : Type} (l : List α) : l = [] ∨ ∃ q x, l = q ++ [x] := by
  rcases List.eq_nil_or_concat l with h | ⟨q, x, h⟩
  · exact .inl h
  · exact .inr ⟨q, x, by rw [h, List.concat_eq_append]⟩
theorem dec_back (n : Nat) : ∀ p : List UInt8, p.length = n → p ≠ [] → (∀ x ∈ p, isDig x) → noZero p → Lib.decDigits (decVal p) = p := by
  induction n with
  | zero => intro p h hne; exact absurd (List.eq_nil_of_length_eq_zero h) hne
  | succ n ih =>
    intro p hn hne hd hz
    rcases snoc_or p with rfl | ⟨q, x, rfl⟩
    · exact absurd rfl hne
    · have hx := hd x (by simp)
      unfold isDig at hx
      have hx2 : UInt8.ofNat (48 + (x.toNat - 48)) = x := by
        rw [show 48 + (x.toNat - 48) = x.toNat from by omega]; simp
      rw [decVal_snoc]
      rcases q with _ | ⟨y, t⟩
      · rw [show decVal [] * 10 + (x.toNat - 48) = x.toNat - 48 from by simp [decVal], Lib.decDigits_one (by omega), hx2]; rfl
      · have hy : y ≠ 48 := by
          rcases hz with h | h
          · simp at h
          · simpa using h
        have hq := ih (y :: t) (by simpa using hn) (by simp) (fun z hz => hd z (by simp at hz ⊢; rcases hz with h | h <;> simp [h])) (.inr (by simpa using hy))
        have hpos := decVal_pos (t := t) (hd y (by simp)) hy
        rw [Lib.decDigits, dif_neg (by omega), show (decVal (y :: t) * 10 + (x.toNat - 48)) / 10 = decVal (y :: t) from by omega, hq,
          show (decVal (y :: t) * 10 + (x.toNat - 48)) % 10 = x.toNat - 48 from by omega, hx2]

/-! ### what ParseOID takes -/
theorem finP_some (t : List (List UInt8)) : ∀ d d', finP d t = some d' → d' = d ++ encAll (t.map decVal) ∧ ∀ p ∈ t, p ≠ [] := by
  induction t with
  | nil => intro d d' h; simp [finP] at h; subst h; simp [encAll]
  | cons p t ih =>
    intro d d' h
    unfold finP at h
    by_cases hp : p = []
    · rw [if_pos hp] at h; cases h
    · rw [if_neg hp] at h
      obtain ⟨h1, h2⟩ := ih _ _ h
      refine ⟨by rw [h1, List.map_cons, encAll_cons, List.append_assoc], fun q hq => ?_⟩
      rcases List.mem_cons.1 hq with rfl | hq
      · exact hp
      · exact h2 q hq
theorem finP_is (t : List (List UInt8)) : ∀ d, (∀ p ∈ t, p ≠ []) → (finP d t).isSome = true := by
  induction t with
  | nil => intro d _; rfl
  | cons p t ih =>
    intro d h
    unfold finP
    rw [if_neg (h p (by simp))]
    exact ih _ (fun q hq => h q (by simp [hq]))
theorem finP_not (t : List (List UInt8)) : ∀ d, [] ∈ t → finP d t = none := by
  induction t with
  | nil => intro d h; simp at h
  | cons p t ih =>
    intro d h
    unfold finP
    by_cases hp : p = []
    · rw [if_pos hp]
    · rw [if_neg hp]
      exact ih _ (by rcases List.mem_cons.1 h with h | h; exact absurd h.symm hp; exact h)
/-- The form of what is taken. -/
structure Taken (l d : List UInt8) (a b : List UInt8) (t : List (List UInt8)) : Prop where
  all : ∀ x ∈ l, okChar x = true
  pc : pieces l = a :: b :: t
  ha : a ≠ []
  hb : b ≠ []
  ht : ∀ p ∈ t, p ≠ []
  h2 : decVal a ≤ 2
  h40 : decVal a < 2 → decVal b ≤ 39
  dg : ∀ p ∈ a :: b :: t, ∀ x ∈ p, isDig x
  eq : d = idEnc (decVal a) (decVal b) (t.map decVal)
theorem parse_taken {l d : List UInt8} (h : parse l = some d) : ∃ a b t, Taken l d a b t := by
  unfold parse at h
  by_cases hall : l.all okChar = true
  · rw [if_pos hall] at h
    have hmem := pieces_mem l
    cases hp : pieces l with
    | nil => exact absurd hp (pieces_ne l)
    | cons a t0 =>
      cases t0 with
      | nil => rw [hp] at h; simp [parseP] at h
      | cons b t =>
        rw [hp] at h hmem
        simp only [parseP] at h
        by_cases ha : a = []
        · rw [if_pos ha] at h; cases h
        · rw [if_neg ha] at h
          by_cases hb : b = []
          · rw [if_pos hb] at h; cases h
          · rw [if_neg hb] at h
            by_cases h2 : 2 < decVal a
            · rw [if_pos h2] at h; cases h
            · rw [if_neg h2] at h
              by_cases h40 : decVal a < 2 ∧ 40 ≤ decVal b
              · rw [if_pos h40] at h; cases h
              · rw [if_neg h40] at h
                obtain ⟨e, hne⟩ := finP_some _ _ _ h
                refine ⟨a, b, t, fun x hx => List.all_eq_true.1 hall x hx, hp, ha, hb, hne, by omega, fun h1 => by omega, fun p hp x hx => ?_, ?_⟩
                · have := hmem p hp x hx
                  exact okChar_dig (List.all_eq_true.1 hall x this.1) this.2
                · rw [e]; unfold idEnc; rw [Nat.mul_comm 40]
  · rw [if_neg hall] at h; cases h
section
variable {l d a b : List UInt8} {t : List (List UInt8)}
theorem Taken.ok (h : Taken l d a b t) : okBytes d = true := by rw [h.eq]; exact idEnc_ok _ _ _
theorem encAll_dec_len (t : List (List UInt8)) (h : ∀ p ∈ t, ∀ x ∈ p, isDig x) : (encAll (t.map decVal)).length ≤ (t.map List.length).sum + t.length := by
  induction t with
  | nil => simp [encAll]
  | cons p t ih =>
    have h1 := ih (fun q hq => h q (by simp [hq]))
    have h2 := enc_dec_len (h p (by simp))
    rw [List.map_cons, encAll_cons, List.length_append]
    simp; omega
theorem Taken.len (h : Taken l d a b t) (hl : l.length ≤ 200) : d.length ≤ 500 := by
  have h1 := pieces_sum l
  rw [h.pc] at h1
  have h2 := encAll_dec_len t (fun p hp => h.dg p (by simp [hp]))
  have h3 := enc_dec_len2 (h.dg b (by simp)) h.h2
  rw [h.eq]
  unfold idEnc
  rw [Nat.mul_comm 40, List.length_append]
  simp at h1; omega
theorem dots_back (t : List (List UInt8)) (h : ∀ p ∈ t, Lib.decDigits (decVal p) = p) : ∀ p, p ++ dots (t.map decVal) = joinP (p :: t) := by
  induction t with
  | nil => intro p; simp [dots, joinP]
  | cons q t ih =>
    intro p
    have h1 := ih (fun r hr => h r (by simp [hr])) q
    rw [List.map_cons, dots, h q (by simp), joinP, ← h1]
    simp
theorem Taken.text (h : Taken l d a b t) (hz : ∀ p ∈ pieces l, noZero p) : oidText d = l := by
  rw [h.pc] at hz
  have hd : ∀ p ∈ a :: b :: t, Lib.decDigits (decVal p) = p := fun p hp => by
    refine dec_back _ p rfl ?_ (h.dg p hp) (hz p hp)
    rcases List.mem_cons.1 hp with rfl | hp
    · exact h.ha
    · rcases List.mem_cons.1 hp with rfl | hp
      · exact h.hb
      · exact h.ht p hp
  rw [h.eq, idEnc_text _ h.h2 h.h40]
  have : joinDots (decVal a :: decVal b :: t.map decVal) = a ++ dots ((b :: t).map decVal) := by
    rw [joinDots, hd a (by simp)]; rfl
  rw [this, dots_back (b :: t) (fun p hp => hd p (by simp at hp ⊢; rcases hp with h | h <;> simp [h])), ← h.pc, joinP_pieces]
end
end Go.Proofs.YtiopgkdldkkonaaDoor
namespace Go.Proofs.YtiopgkdldkkonaaDoor
open Go.Proofs.YtiopgkdldkkonaaDoorW.PrintWords Go.Proofs.YtiopgkdldkkonaaDoorW.PrintMore Go.RowKit Go.Proofs.YtiopgkdldkkonaaDoor.Num Go.Proofs.YtiopgkdldkkonaaDoor.Pn
set_option linter.unusedVariables false
set_option linter.unusedSimpArgs false

theorem pieces_snoc_dot (l : List UInt8) : pieces (l ++ [46]) = pieces l ++ [[]] := by
  induction l with
  | nil => rfl
  | cons y l ih =>
    obtain ⟨q, t, hq⟩ : ∃ p t, pieces l = p :: t := by
      cases hq : pieces l with
      | nil => exact absurd hq (pieces_ne l)
      | cons p t => exact ⟨p, t, rfl⟩
    rw [hq] at ih
    simp only [List.cons_append, pieces, ih, hq]
    by_cases h : y = 46
    · rw [if_pos h, if_pos h]; rfl
    · rw [if_neg h, if_neg h]; rfl
theorem pieces_snoc (l : List UInt8) {x : UInt8} (hx : x ≠ 46) : ∃ q p, pieces l = q ++ [p] ∧ pieces (l ++ [x]) = q ++ [p ++ [x]] := by
  induction l with
  | nil => exact ⟨[], [], rfl, by simp [pieces, hx]⟩
  | cons y l ih =>
    obtain ⟨q, p, h1, h2⟩ := ih
    simp only [List.cons_append, pieces, h1, h2]
    by_cases h : y = 46
    · rw [if_pos h, if_pos h]; exact ⟨[] :: q, p, rfl, rfl⟩
    · rw [if_neg h, if_neg h]
      cases q with
      | nil => exact ⟨[], y :: p, rfl, rfl⟩
      | cons r q => exact ⟨(y :: r) :: q, p, rfl, rfl⟩
theorem pieces_len (l : List UInt8) : (pieces l).length ≤ l.length + 1 := by have := pieces_sum l; omega

theorem bt_str {l : List UInt8} {i : Nat} (h : i < l.length) : bt (str l) (i : Int) = (l[i].toNat : Int) := by
  have hs : (i : Int).toNat < (str l).size := by rw [str_size]; exact h
  rw [← bt_at (str l) i hs]; rfl
theorem u8_eq46 (x : UInt8) : (x.toNat : Int) = 46 ↔ x = 46 := by
  constructor
  · intro h; exact UInt8.toNat_inj.1 (by show x.toNat = 46; omega)
  · intro h; subst h; rfl

theorem labels_l0 (l : List UInt8) (hl : l.length ≤ 200) : ∀ (d i : Nat), i + d = l.length →
    Ev (fun k => spec_labels.l0 k (str l) ((pieces (l.take i)).map str) (l.length : Int) (i : Int)) ((pieces l).map str) := by
  have hs : (str l).size = l.length := str_size l
  intro d
  induction d with
  | zero =>
    intro i hi
    obtain rfl : i = l.length := by omega
    refine Ev.step (f := fun _ => some ((pieces l).map str)) (fun k => ?_) (Ev.now _)
    simp only [spec_labels.l0]
    rw [if_neg (by omega), List.take_of_length_le (Nat.le_refl _)]
  | succ d ih =>
    intro i hi
    have hlt : i < l.length := by omega
    have ihs := ih (i + 1) (by omega)
    have hpl := pieces_len (l.take i)
    rw [List.length_take] at hpl
    rw [List.take_succ_eq_append_getElem hlt] at ihs
    by_cases hx : l[i] = 46
    · rw [hx, pieces_snoc_dot] at ihs
      refine Ev.step (fun k => ?_) ihs
      simp only [spec_labels.l0]
      rw [if_pos (by omega), if_pos (by omega), if_pos (by rw [hs]; omega), if_pos (by rw [bt_str hlt, hx]; rfl), if_pos (by rw [List.length_map]; omega), w64 (by omega) (by omega), List.map_append]
      rfl
    · obtain ⟨q, p, h1, h2⟩ := pieces_snoc (l.take i) hx
      rw [h2] at ihs
      rw [h1] at hpl ⊢
      refine Ev.step (fun k => ?_) ihs
      have hlen : ((q ++ [p]).map str).length = q.length + 1 := by simp
      have hidx : wrap64 ((((q ++ [p]).map str).length : Int) - 1) = (q.length : Int) := by rw [hlen, w64 (by omega) (by simp at hpl; omega)]; omega
      have hrd : rdOf ByteArray.empty ((q ++ [p]).map str) (q.length : Int) = str p := by
        unfold rdOf
        rw [Int.toNat_natCast, List.map_append, List.getD_eq_getElem?_getD, List.getElem?_append_right (by simp)]
        simp
      have hex : (str l).extract (i : Int).toNat ((i : Int) + 1).toNat = str [l[i]] := by
        rw [str_extract, show (i : Int).toNat = i from by omega, show ((i : Int) + 1).toNat = i + 1 from by omega, List.take_succ_eq_append_getElem hlt, List.drop_left' (by rw [List.length_take]; omega)]
      have hset : ((q ++ [p]).map str).set q.length (str p ++ str [l[i]]) = (q ++ [p ++ [l[i]]]).map str := by
        rw [str_cat, List.map_append, List.set_append_right _ _ (by simp)]
        simp
      simp only [spec_labels.l0]
      rw [hidx, w64 (x := (i : Int) + 1) (by omega) (by omega), hrd, hex, Int.toNat_natCast, hset, hlen]
      have hpsz : (str p).size ≤ 300 := by
        rw [str_size]
        have := pieces_sum (l.take i)
        rw [h1, List.length_take] at this
        simp at this; omega
      rw [if_pos (by omega), if_pos (by omega), if_pos (by rw [hs]; omega), if_neg (by rw [bt_str hlt, u8_eq46]; exact hx), if_pos (by omega), if_pos (by omega), if_pos (by omega), if_pos (by rw [hs]; omega), if_pos (by rw [str_size [l[i]]]; simp; omega)]
      rfl
theorem labels_f (l : List UInt8) (hl : l.length ≤ 200) : Ev (fun k => spec_labels.f k (str l)) ((pieces l).map str) := by
  have h := labels_l0 l hl l.length 0 (by omega)
  refine Ev.congr (fun k => ?_) h
  unfold spec_labels.f
  rw [str_size]; rfl

/-! ### spec.IDText -/
def goodP (p : List UInt8) : Bool := if p = [] then false else if p.head? = some 48 ∧ 1 < p.length then false else p.all isDigB
def headOK (a b : List UInt8) : Bool :=
  if 1 < a.length then false else if Op.bytesLess [50] a = true then false else if Op.bytesLess a [50] = true then (if 2 < b.length then false else if b.length = 2 then (if Op.bytesLess [51, 57] b = true then false else true) else true) else true
/-- What spec.IDText answers. -/
def wantB : List (List UInt8) → Bool
  | a :: b :: t => (a :: b :: t).all goodP && headOK a b
  | _ => false
theorem str_list (p : List UInt8) : (str p).toList = p := by rw [Lib.toList_data]

theorem idText_l1 (x4 x13 : List ByteArray) (x14 : Int) (x15 : Nat) (h15 : x15 ≤ 300) (p : List UInt8) (hp : p.length ≤ 300) (r : List ByteArray × Bool) :
    ∀ (d i : Nat), i + d = p.length → ((p.drop i).all isDigB = true → Ev (fun k => spec_IDText.l0 k x4 x13 x14 ((x15 + 1 : Nat) : Int)) r) → ((p.drop i).all isDigB = false → r = ([], false)) →
    Ev (fun k => spec_IDText.l1 k x4 (str p) x13 x14 (x15 : Int) (p.length : Int) (i : Int)) r := by
  have hs : (str p).size = p.length := str_size p
  intro d
  induction d with
  | zero =>
    intro i hi h1 _
    obtain rfl : i = p.length := by omega
    have h := h1 (by rw [List.drop_length]; rfl)
    refine Ev.step (fun k => ?_) h
    simp only [spec_IDText.l1]
    rw [if_neg (by omega), w64 (by omega) (by omega)]; rfl
  | succ d ih =>
    intro i hi h1 h2
    have hlt : i < p.length := by omega
    have hdr : p.drop i = p[i] :: p.drop (i + 1) := List.drop_eq_getElem_cons hlt
    rw [hdr, List.all_cons] at h1 h2
    by_cases hd : isDigB p[i] = true
    · rw [hd, Bool.true_and] at h1 h2
      have := ih (i + 1) (by omega) h1 h2
      refine Ev.step (fun k => ?_) this
      unfold isDigB at hd
      simp at hd
      simp only [spec_IDText.l1]
      rw [if_pos (by omega), if_pos (by omega), if_pos (by rw [hs]; omega), bt_str hlt, if_neg (by omega), if_neg (by omega), w64 (by omega) (by omega)]; rfl
    · have hd' : isDigB p[i] = false := by simpa using hd
      rw [hd', Bool.false_and] at h2
      rw [h2 rfl]
      refine Ev.step (f := fun _ => some ([], false)) (fun k => ?_) (Ev.now _)
      unfold isDigB at hd'
      simp at hd'
      simp only [spec_IDText.l1]
      rw [if_pos (by omega), if_pos (by omega), if_pos (by rw [hs]; omega), bt_str hlt]
      by_cases h48 : p[i].toNat < 48
      · rw [if_pos (by omega)]
      · rw [if_neg (by omega), if_pos (by omega)]

theorem idText_l0 (a b : List UInt8) (t ps : List (List UInt8)) (hps : ps = a :: b :: t) (hl : ps.length ≤ 300) (hp : ∀ p ∈ ps, p.length ≤ 300) : ∀ (d i : Nat), i + d = ps.length →
    Ev (fun k => spec_IDText.l0 k (ps.map str) (ps.map str) (ps.length : Int) (i : Int)) (if (ps.drop i).all goodP = true then (if headOK a b = true then (ps.map str, true) else ([], false)) else ([], false)) := by
  intro d
  induction d with
  | zero =>
    intro i hi
    obtain rfl : i = ps.length := by omega
    refine Ev.step (f := fun _ => some (if headOK a b = true then (ps.map str, true) else ([], false))) (fun k => ?_) (by rw [List.drop_length]; exact Ev.now _)
    have r0 : rdOf ByteArray.empty (ps.map str) 0 = str a := by rw [hps]; rfl
    have r1 : rdOf ByteArray.empty (ps.map str) 1 = str b := by rw [hps]; rfl
    have hlen : (ps.map str).length = ps.length := by simp
    have hp2 : 2 ≤ ps.length := by rw [hps]; simp
    simp only [spec_IDText.l0]
    rw [if_neg (by omega), hlen, if_pos (by omega), r0, r1, str_list, str_list, str_size, str_size]
    unfold headOK
    by_cases h1 : 1 < a.length
    · rw [if_pos (by omega), if_pos h1]; rfl
    · rw [if_neg (by omega), if_neg h1]
      by_cases h2 : Op.bytesLess [50] a = true
      · rw [if_pos h2, if_pos h2]; rfl
      · rw [if_neg h2, if_neg h2]
        by_cases h3 : Op.bytesLess a [50] = true
        · rw [if_pos h3, if_pos h3, if_pos (by omega)]
          by_cases h4 : 2 < b.length
          · rw [if_pos (by omega), if_pos h4]; rfl
          · rw [if_neg (by omega), if_neg h4]
            by_cases h5 : b.length = 2
            · rw [if_pos (by omega), if_pos h5]
              by_cases h6 : Op.bytesLess [51, 57] b = true
              · rw [if_pos h6, if_pos h6]; rfl
              · rw [if_neg h6, if_neg h6]; rfl
            · rw [if_neg (by omega), if_neg h5]; rfl
        · rw [if_neg h3, if_neg h3]; rfl
  | succ d ih =>
    intro i hi
    have hlt : i < ps.length := by omega
    have hdr : ps.drop i = ps[i] :: ps.drop (i + 1) := List.drop_eq_getElem_cons hlt
    have ihs := ih (i + 1) (by omega)
    rw [hdr, List.all_cons]
    obtain ⟨p, hpe⟩ : ∃ p, p = ps[i] := ⟨_, rfl⟩
    have hpl : p.length ≤ 300 := by rw [hpe]; exact hp _ (List.getElem_mem _)
    have hrd : rdOf ByteArray.empty (ps.map str) (i : Int) = str p := by
      unfold rdOf
      rw [Int.toNat_natCast, List.getD_eq_getElem?_getD, List.getElem?_map, List.getElem?_eq_getElem hlt, hpe]; rfl
    rw [← hpe]
    have hlen : (ps.map str).length = ps.length := by simp
    -- the step to j1
    have hj : ∀ (k : Nat), spec_IDText.l0 (k + 1) (ps.map str) (ps.map str) (ps.length : Int) (i : Int) = spec_IDText.j1 k (ps.map str) (str p) (ps.map str) (ps.length : Int) (i : Int) (if p = [] then true else decide (p.head? = some 48 ∧ 1 < p.length)) := by
      intro k
      simp only [spec_IDText.l0]
      rw [if_pos (by omega), if_pos (by omega), if_pos (by rw [hlen]; omega), hrd, str_list, str_size]
      cases p with
      | nil => rfl
      | cons x q =>
        have hr : (if (x :: q) = [] then true else decide ((x :: q).head? = some 48 ∧ 1 < (x :: q).length)) = decide ((x :: q).head? = some 48 ∧ 1 < (x :: q).length) := if_neg (by simp)
        have hb : bt (str (x :: q)) 0 = (x.toNat : Int) := bt_str (l := x :: q) (i := 0) (by simp)
        rw [hr, if_neg (by simp), if_pos (by simp), hb]
        simp only [List.getElem_cons_zero, List.head?_cons, Option.some.injEq, List.length_cons]
        by_cases h48 : x = 48
        · rw [if_pos (by rw [h48]; rfl)]
          congr 1
          rw [decide_eq_decide]
          constructor
          · intro h; exact ⟨h48, by omega⟩
          · intro h; omega
        · rw [if_neg (fun h => h48 (UInt8.toNat_inj.1 (by show x.toNat = 48; omega)))]
          congr 1
          simp [h48]
    refine Ev.step hj ?_
    unfold goodP
    by_cases h1 : p = []
    · rw [if_pos h1, if_pos h1, Bool.false_and]
      refine Ev.step (f := fun _ => some ([], false)) (fun k => ?_) (Ev.now _)
      simp only [spec_IDText.j1]; rfl
    · rw [if_neg h1, if_neg h1]
      by_cases h2 : p.head? = some 48 ∧ 1 < p.length
      · rw [if_pos h2, decide_eq_true h2, Bool.false_and]
        refine Ev.step (f := fun _ => some ([], false)) (fun k => ?_) (Ev.now _)
        simp only [spec_IDText.j1]; rfl
      · rw [if_neg h2, decide_eq_false h2]
        refine Ev.step (f := fun k => spec_IDText.l1 k (ps.map str) (str p) (ps.map str) (ps.length : Int) (i : Int) (p.length : Int) ((0 : Nat) : Int)) (fun k => ?_) ?_
        · simp only [spec_IDText.j1]
          rw [if_neg (by simp), str_size]; rfl
        · refine idText_l1 _ _ _ i (by omega) p hpl _ p.length 0 (by omega) (fun h => ?_) (fun h => ?_)
          · rw [List.drop_zero] at h
            rw [h, Bool.true_and]
            exact ihs
          · rw [List.drop_zero] at h
            rw [h, Bool.false_and]; rfl
theorem idText_f (l : List UInt8) (hl : l.length ≤ 200) : ∃ r1, Ev (fun k => spec_IDText.f k (str l)) (r1, wantB (pieces l)) := by
  have hlab := labels_f l hl
  have hsum := pieces_sum l
  have hplen : ∀ p ∈ pieces l, p.length ≤ 300 := fun p hp => by
    have : ∀ (t : List (List UInt8)), p ∈ t → p.length ≤ (t.map List.length).sum := by
      intro t
      induction t with
      | nil => intro h; simp at h
      | cons q t ih =>
        intro h
        rcases List.mem_cons.1 h with rfl | h
        · simp
        · have := ih h; simp; omega
    have := this _ hp; omega
  have key : ∀ ps : List (List UInt8), ps = pieces l → ∃ r1, Ev (fun k => if ((ps.map str).length : Int) < 2 then (some (([] : List ByteArray), false)) else (spec_IDText.l0 k (ps.map str) (ps.map str) ((ps.map str).length : Int) 0)) (r1, wantB ps) := by
    intro ps hps
    rw [← hps] at hplen hsum
    match ps, hps with
    | [], h => exact absurd h.symm (pieces_ne l)
    | [p], h => exact ⟨[], Ev.congr (fun k => by rw [if_pos (by simp)]; rfl) (Ev.now _)⟩
    | a :: b :: t, h =>
      have h0 := idText_l0 a b t (a :: b :: t) rfl (by simp at hsum ⊢; omega) hplen _ 0 (Nat.zero_add _)
      rw [List.drop_zero] at h0
      refine ⟨if (a :: b :: t).all goodP = true then (if headOK a b = true then (a :: b :: t).map str else []) else [], Ev.congr (g := fun k => _) (fun k => ?_) (by
        show Ev _ (_, (a :: b :: t).all goodP && headOK a b)
        by_cases h1 : (a :: b :: t).all goodP = true
        · rw [if_pos h1] at h0 ⊢
          rw [h1, Bool.true_and]
          by_cases h2 : headOK a b = true
          · rw [if_pos h2] at h0 ⊢; rw [h2]; exact h0
          · rw [if_neg h2] at h0 ⊢; rw [Bool.eq_false_iff.2 h2]; exact h0
        · rw [if_neg h1] at h0 ⊢
          rw [Bool.eq_false_iff.2 h1, Bool.false_and]; exact h0)⟩
      rw [if_neg (by simp; omega), List.length_map]; rfl
  obtain ⟨r1, h1⟩ := key _ rfl
  exact ⟨r1, Ev.congr (fun k => rfl) (Ev.bind hlab h1)⟩
end Go.Proofs.YtiopgkdldkkonaaDoor
namespace Go.Proofs.YtiopgkdldkkonaaDoor
open Go.RowKit Go.Proofs.YtiopgkdldkkonaaDoor.Num
set_option linter.unusedVariables false
set_option linter.unusedSimpArgs false

/-! ### noughts ahead -/
def nzAt (l : List UInt8) (i : Nat) : Bool := decide (l[i]? = some 48) && (decide (i = 0) || decide (l[i - 1]? = some 46)) && decide (i + 1 < l.length) && !decide (l[i + 1]? = some 46)
def nzGo : Bool → List UInt8 → Prop
  | _, [] => True
  | s, x :: t => (s = true → x = 48 → t = [] ∨ t.head? = some 46) ∧ nzGo (decide (x = 46)) t
theorem nz_go (l : List UInt8) : ∀ s, nzGo s l → (s = true → noZero ((pieces l).headD [])) ∧ ∀ p ∈ (pieces l).tail, noZero p := by
  induction l with
  | nil => intro s _; exact ⟨fun _ => .inl (by simp [pieces]), fun p hp => by simp [pieces] at hp⟩
  | cons x l ih =>
    intro s h
    obtain ⟨h1, h2⟩ := h
    obtain ⟨i1, i2⟩ := ih _ h2
    obtain ⟨q, t, hq⟩ : ∃ p t, pieces l = p :: t := by
      cases hq : pieces l with
      | nil => exact absurd hq (pieces_ne l)
      | cons p t => exact ⟨p, t, rfl⟩
    rw [hq] at i1 i2
    simp only [List.headD_cons, List.tail_cons] at i1 i2
    unfold pieces
    rw [hq]
    by_cases hx : x = 46
    · rw [if_pos hx]
      refine ⟨fun _ => .inl (by simp), fun p hp => ?_⟩
      rcases List.mem_cons.1 hp with rfl | hp
      · exact i1 (by simp [hx])
      · exact i2 p hp
    · rw [if_neg hx]
      simp only [List.headD_cons, List.tail_cons]
      refine ⟨fun hs => ?_, i2⟩
      by_cases h48 : x = 48
      · rcases h1 hs h48 with hl | hl
        · subst hl
          simp [pieces] at hq
          rw [hq.1]; exact .inl (by simp)
        · cases l with
          | nil => simp at hl
          | cons y l =>
            simp at hl
            subst hl
            simp [pieces] at hq
            rw [hq.1]; exact .inl (by simp)
      · exact .inr (by simpa using h48)
theorem nz_at (l : List UInt8) (h : ∀ i, i < l.length → nzAt l i = false) : ∀ d i, i + d = l.length → nzGo (decide (i = 0) || decide (l[i - 1]? = some 46)) (l.drop i) := by
  intro d
  induction d with
  | zero => intro i hi; obtain rfl : i = l.length := by omega
            rw [List.drop_length]; trivial
  | succ d ih =>
    intro i hi
    have hlt : i < l.length := by omega
    have hdr : l.drop i = l[i] :: l.drop (i + 1) := List.drop_eq_getElem_cons hlt
    have ihs := ih (i + 1) (by omega)
    rw [hdr]
    refine ⟨fun hs h48 => ?_, ?_⟩
    · have hn := h i hlt
      unfold nzAt at hn
      rw [hs, List.getElem?_eq_getElem hlt, h48] at hn
      by_cases h1 : i + 1 < l.length
      · right
        rw [List.head?_drop]
        simpa [h1] using hn
      · left
        exact List.drop_eq_nil_of_le (by omega)
    · have e : (decide (i + 1 = 0) || decide (l[i + 1 - 1]? = some 46)) = decide (l[i] = 46) := by
        rw [show i + 1 - 1 = i from rfl, List.getElem?_eq_getElem hlt]; simp
      rw [e] at ihs
      exact ihs
theorem nz_pieces {l : List UInt8} (h : ∀ i, i < l.length → nzAt l i = false) : ∀ p ∈ pieces l, noZero p := by
  have h1 := nz_at l h l.length 0 (by omega)
  rw [List.drop_zero] at h1
  obtain ⟨i1, i2⟩ := nz_go l _ h1
  obtain ⟨q, t, hq⟩ : ∃ p t, pieces l = p :: t := by
    cases hq : pieces l with
    | nil => exact absurd hq (pieces_ne l)
    | cons p t => exact ⟨p, t, rfl⟩
  rw [hq] at i1 i2 ⊢
  intro p hp
  rcases List.mem_cons.1 hp with rfl | hp
  · exact i1 (by simp)
  · exact i2 p hp

/-! ### taken, and wanted -/
theorem bl_one (x y : UInt8) : Op.bytesLess [x] [y] = decide (x.toNat < y.toNat) := by
  simp [Op.bytesLess, UInt8.lt_iff_toNat_lt]
theorem bl_two (x y u v : UInt8) : Op.bytesLess [x, y] [u, v] = decide (x.toNat < u.toNat ∨ x.toNat = u.toNat ∧ y.toNat < v.toNat) := by
  have h : (x == u) = decide (x.toNat = u.toNat) := by rw [Bool.eq_iff_iff]; simp [UInt8.toNat_inj]
  simp [Op.bytesLess, UInt8.lt_iff_toNat_lt, h]
theorem decVal_one (x : UInt8) : decVal [x] = x.toNat - 48 := by simp [decVal]
theorem decVal_two (x y : UInt8) : decVal [x, y] = (x.toNat - 48) * 10 + (y.toNat - 48) := by simp [decVal]
theorem decVal_from_ge (t : List UInt8) : ∀ a, a ≤ t.foldl (fun a (x : UInt8) => a * 10 + (x.toNat - 48)) a := by
  induction t with
  | nil => intro a; exact Nat.le_refl _
  | cons x t ih => intro a; exact Nat.le_trans (show a ≤ a * 10 + (x.toNat - 48) by omega) (ih _)
theorem decVal_ge2 {y z : UInt8} {t : List UInt8} (h : isDig y) (hy : y ≠ 48) : 10 ≤ decVal (y :: z :: t) := by
  unfold isDig at h
  have : y.toNat ≠ 48 := fun e => hy (UInt8.toNat_inj.1 e)
  exact Nat.le_trans (show 10 ≤ (0 * 10 + (y.toNat - 48)) * 10 + (z.toNat - 48) by omega) (decVal_from_ge t _)
theorem decVal_ge3 {y z u : UInt8} {t : List UInt8} (h : isDig y) (hy : y ≠ 48) : 100 ≤ decVal (y :: z :: u :: t) := by
  unfold isDig at h
  have : y.toNat ≠ 48 := fun e => hy (UInt8.toNat_inj.1 e)
  exact Nat.le_trans (show 100 ≤ ((0 * 10 + (y.toNat - 48)) * 10 + (z.toNat - 48)) * 10 + (u.toNat - 48) by omega) (decVal_from_ge t _)
theorem noZero_head {y z : UInt8} {t : List UInt8} (h : noZero (y :: z :: t)) : y ≠ 48 := by
  rcases h with h | h
  · simp at h
  · simpa using h
theorem isDigB_iff (x : UInt8) : isDigB x = true ↔ isDig x := by unfold isDigB isDig; simp
theorem head_iff {a b : List UInt8} (ha : a ≠ []) (hb : b ≠ []) (hda : ∀ x ∈ a, isDig x) (hdb : ∀ x ∈ b, isDig x) (hza : noZero a) (hzb : noZero b) :
    headOK a b = true ↔ (decVal a ≤ 2 ∧ (decVal a < 2 → decVal b ≤ 39)) := by
  match a, ha, hda, hza with
  | [x], _, hda, _ =>
    have hx := hda x (by simp)
    unfold isDig at hx
    unfold headOK
    rw [if_neg (by simp), bl_one, bl_one, decVal_one]
    have e50 : (50 : UInt8).toNat = 50 := rfl
    rw [e50]
    by_cases h1 : 50 < x.toNat
    · rw [if_pos (by simpa using h1)]; simp; omega
    · rw [if_neg (by simpa using h1)]
      by_cases h2 : x.toNat < 50
      · rw [if_pos (by simpa using h2)]
        match b, hb, hdb, hzb with
        | [y], _, hdb, _ =>
          have hy := hdb y (by simp)
          unfold isDig at hy
          rw [if_neg (by simp), if_neg (by simp), decVal_one]; simp; omega
        | [y, z], _, hdb, hzb =>
          have hy := hdb y (by simp)
          have hz := hdb z (by simp)
          unfold isDig at hy hz
          rw [if_neg (by simp), if_pos (by simp), bl_two, decVal_two]
          have e1 : (51 : UInt8).toNat = 51 := rfl
          have e2 : (57 : UInt8).toNat = 57 := rfl
          rw [e1, e2]
          by_cases h3 : 51 < y.toNat ∨ 51 = y.toNat ∧ 57 < z.toNat
          · rw [if_pos (by simpa using h3)]; simp; omega
          · rw [if_neg (by simpa using h3)]; simp; omega
        | y :: z :: u :: t, _, hdb, hzb =>
          have := decVal_ge3 (z := z) (u := u) (t := t) (hdb y (by simp)) (noZero_head hzb)
          rw [if_pos (by simp)]
          simp; omega
      · rw [if_neg (by simpa using h2)]; simp; omega
  | y :: z :: t, _, hda, hza =>
    have := decVal_ge2 (z := z) (t := t) (hda y (by simp)) (noZero_head hza)
    unfold headOK
    rw [if_pos (by simp)]
    simp; omega
theorem good_iff {p : List UInt8} (hz : noZero p) : goodP p = true ↔ (p ≠ [] ∧ ∀ x ∈ p, isDig x) := by
  unfold goodP
  by_cases h : p = []
  · rw [if_pos h]; simp [h]
  · have h2 : ¬ (p.head? = some 48 ∧ 1 < p.length) := fun h2 => by
      rcases hz with hz | hz
      · omega
      · exact hz h2.1
    rw [if_neg h, if_neg h2, List.all_eq_true]
    constructor
    · intro h1; exact ⟨h, fun x hx => (isDigB_iff x).1 (h1 x hx)⟩
    · intro h1 x hx; exact (isDigB_iff x).2 (h1.2 x hx)
theorem mem_pieces (l : List UInt8) : ∀ x ∈ l, x = 46 ∨ ∃ p ∈ pieces l, x ∈ p := by
  induction l with
  | nil => intro x hx; simp at hx
  | cons y l ih =>
    intro x hx
    obtain ⟨q, t, hq⟩ : ∃ p t, pieces l = p :: t := by
      cases hq : pieces l with
      | nil => exact absurd hq (pieces_ne l)
      | cons p t => exact ⟨p, t, rfl⟩
    unfold pieces
    rw [hq] at ih ⊢
    by_cases hy : y = 46
    · rw [if_pos hy]
      rcases List.mem_cons.1 hx with rfl | hx
      · exact .inl hy
      · rcases ih x hx with h | ⟨p, hp, hxp⟩
        · exact .inl h
        · exact .inr ⟨p, List.mem_cons_of_mem _ hp, hxp⟩
    · rw [if_neg hy]
      simp only [List.headD_cons, List.tail_cons]
      rcases List.mem_cons.1 hx with rfl | hx
      · exact .inr ⟨x :: q, by simp, by simp⟩
      · rcases ih x hx with h | ⟨p, hp, hxp⟩
        · exact .inl h
        · rcases List.mem_cons.1 hp with rfl | hp
          · exact .inr ⟨y :: p, by simp, List.mem_cons_of_mem _ hxp⟩
          · exact .inr ⟨p, List.mem_cons_of_mem _ hp, hxp⟩
theorem parse_want {l : List UInt8} (hz : ∀ p ∈ pieces l, noZero p) : (parse l).isSome = wantB (pieces l) := by
  rw [Bool.eq_iff_iff]
  constructor
  · intro h
    obtain ⟨d, hd⟩ := Option.isSome_iff_exists.1 h
    obtain ⟨a, b, t, T⟩ := parse_taken hd
    rw [T.pc] at hz ⊢
    unfold wantB
    rw [Bool.and_eq_true, List.all_eq_true]
    refine ⟨fun p hp => (good_iff (hz p hp)).2 ⟨?_, T.dg p hp⟩, (head_iff T.ha T.hb (T.dg a (by simp)) (T.dg b (by simp)) (hz a (by simp)) (hz b (by simp))).2 ⟨T.h2, T.h40⟩⟩
    rcases List.mem_cons.1 hp with rfl | hp
    · exact T.ha
    · rcases List.mem_cons.1 hp with rfl | hp
      · exact T.hb
      · exact T.ht p hp
  · intro h
    have hmem := mem_pieces l
    match hps : pieces l with
    | [] => rw [hps] at h; simp [wantB] at h
    | [p] => rw [hps] at h; simp [wantB] at h
    | a :: b :: t =>
      rw [hps] at h hz hmem
      unfold wantB at h
      rw [Bool.and_eq_true, List.all_eq_true] at h
      obtain ⟨hg, hh⟩ := h
      have hg' : ∀ p ∈ a :: b :: t, p ≠ [] ∧ ∀ x ∈ p, isDig x := fun p hp => (good_iff (hz p hp)).1 (hg p hp)
      obtain ⟨ha, hda⟩ := hg' a (by simp)
      obtain ⟨hb, hdb⟩ := hg' b (by simp)
      obtain ⟨h2, h40⟩ := (head_iff ha hb hda hdb (hz a (by simp)) (hz b (by simp))).1 hh
      have hall : l.all okChar = true := by
        rw [List.all_eq_true]
        intro x hx
        unfold okChar
        rcases hmem x hx with rfl | ⟨p, hp, hxp⟩
        · rfl
        · rw [(isDigB_iff x).2 ((hg' p hp).2 x hxp)]; rfl
      unfold parse
      rw [if_pos hall, hps]
      simp only [parseP]
      rw [if_neg ha, if_neg hb, if_neg (by omega), if_neg (by omega)]
      exact finP_is t _ (fun p hp => (hg' p (by simp [hp])).1)
end Go.Proofs.YtiopgkdldkkonaaDoor

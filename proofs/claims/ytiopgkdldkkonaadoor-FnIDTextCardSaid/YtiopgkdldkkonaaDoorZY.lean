/-
  PLAIN LEAN: a text, cut at its points; what ParseOID makes of it; what is said of both.
  WALKS: zzCut; unmarshalOIDText.
  WALK: unmarshalOIDText.
  WALKS: ParseOID; toASN1OID and ZzNumbers (that they return, and leave what stood).
  WALKS: toASN1OID and ZzNumbers: that they return, and leave what stood.
-/
import Derived.Test.YtiopgkdldkkonaaDoorZX1
import Derived.Test.YtiopgkdldkkonaaDoorZE
import Derived.Test.YtiopgkdldkkonaaDoorZX7
import Derived.Laws.RangeString
import Derived.Laws.RangeAny
namespace Go.Proofs.YtiopgkdldkkonaaDoor
open Go.RowKit Go.Proofs.YtiopgkdldkkonaaDoor.Num
set_option linter.unusedVariables false
set_option linter.unusedSimpArgs false

/-! ### a text's pieces -/
/-- What stands ahead of the first point, what stands behind it, whether there is one. -/
def cutL : List UInt8 → List UInt8 × List UInt8 × Bool
  | [] => ([], [], false)
  | x :: l => if x = 46 then ([], l, true) else (x :: (cutL l).1, (cutL l).2.1, (cutL l).2.2)
/-- The pieces between the points. -/
def pieces : List UInt8 → List (List UInt8)
  | [] => [[]]
  | x :: l => if x = 46 then [] :: pieces l else (x :: (pieces l).headD []) :: (pieces l).tail
/-- What is left behind a cut. -/
def more (c : List UInt8 × List UInt8 × Bool) : List (List UInt8) := if c.2.2 = true then pieces c.2.1 else []
theorem pieces_ne (l : List UInt8) : pieces l ≠ [] := by
  cases l with
  | nil => simp [pieces]
  | cons x l => unfold pieces; split <;> simp
theorem pieces_cut (l : List UInt8) : pieces l = (cutL l).1 :: more (cutL l) := by
  induction l with
  | nil => simp [pieces, cutL, more]
  | cons x l ih =>
    unfold pieces cutL
    by_cases h : x = 46
    · rw [if_pos h, if_pos h]; simp [more]
    · rw [if_neg h, if_neg h, ih]
      simp [more]
theorem cut_index (l : List UInt8) : Lib.indexByte l 46 = if (cutL l).2.2 = true then (((cutL l).1.length : Nat) : Int) else -1 := by
  induction l with
  | nil => rfl
  | cons x l ih =>
    unfold Lib.indexByte cutL
    by_cases h : x = 46
    · rw [if_pos h, if_pos (by simpa using h)]; rfl
    · rw [if_neg h, if_neg (by simpa using h), ih]
      by_cases h2 : (cutL l).2.2 = true
      · rw [if_pos h2, if_neg (by simp), if_pos h2]; simp
      · rw [if_neg h2, if_pos (by rfl), if_neg h2]
theorem cut_parts (l : List UInt8) : l = if (cutL l).2.2 = true then (cutL l).1 ++ 46 :: (cutL l).2.1 else (cutL l).1 := by
  induction l with
  | nil => rfl
  | cons x l ih =>
    unfold cutL
    by_cases h : x = 46
    · rw [if_pos h]; simp [h]
    · rw [if_neg h]
      by_cases h2 : (cutL l).2.2 = true
      · rw [if_pos h2] at ih; rw [if_pos h2]; simp [← ih]
      · rw [if_neg h2] at ih; rw [if_neg h2]; simp [← ih]
theorem cut_no (l : List UInt8) (h : ¬ (cutL l).2.2 = true) : (cutL l).2.1 = [] := by
  induction l with
  | nil => rfl
  | cons x l ih =>
    unfold cutL at h ⊢
    by_cases h1 : x = 46
    · rw [if_pos h1] at h; simp at h
    · rw [if_neg h1] at h ⊢; exact ih h
theorem cut_no46 (l : List UInt8) : ∀ x ∈ (cutL l).1, x ≠ 46 := by
  induction l with
  | nil => simp [cutL]
  | cons y l ih =>
    unfold cutL
    by_cases h1 : y = 46
    · rw [if_pos h1]; simp
    · rw [if_neg h1]
      intro x hx
      rcases List.mem_cons.1 hx with rfl | hx
      · exact h1
      · exact ih x hx
theorem cut_sub (l : List UInt8) : (∀ x ∈ (cutL l).1, x ∈ l) ∧ ∀ x ∈ (cutL l).2.1, x ∈ l := by
  have h := cut_parts l
  by_cases h2 : (cutL l).2.2 = true
  · rw [if_pos h2] at h
    constructor
    · intro x hx; rw [h]; simp [hx]
    · intro x hx; rw [h]; simp [hx]
  · rw [if_neg h2] at h
    rw [cut_no l h2]
    exact ⟨fun x hx => by rw [h]; exact hx, fun x hx => by simp at hx⟩
theorem cut_len (l : List UInt8) : (cutL l).1.length + (cutL l).2.1.length ≤ l.length ∧ ((cutL l).2.2 = true → (cutL l).2.1.length < l.length ∧ (cutL l).1.length < l.length) := by
  have h := congrArg List.length (cut_parts l)
  by_cases h2 : (cutL l).2.2 = true
  · rw [if_pos h2] at h; simp at h; exact ⟨by omega, fun _ => by omega⟩
  · rw [if_neg h2] at h; rw [cut_no l h2]; simp; exact ⟨by omega, fun h3 => absurd h3 h2⟩

/-! ### what ParseOID makes of a text -/
def isDigB (x : UInt8) : Bool := decide (48 ≤ x.toNat) && decide (x.toNat ≤ 57)
def okChar (x : UInt8) : Bool := isDigB x || decide (x.toNat = 46)
/-- The numbers behind the first two, onto d. -/
def finP : List UInt8 → List (List UInt8) → Option (List UInt8)
  | d, [] => some d
  | d, p :: t => if p = [] then none else finP (d ++ enc (decVal p)) t
def parseP : List (List UInt8) → Option (List UInt8)
  | a :: b :: t => if a = [] then none else if b = [] then none else if 2 < decVal a then none else if decVal a < 2 ∧ 40 ≤ decVal b then none else finP (enc (decVal a * 40 + decVal b)) t
  | _ => none
/-- The bytes of the text l, if it is an object identifier's. -/
def parse (l : List UInt8) : Option (List UInt8) := if l.all okChar = true then parseP (pieces l) else none
end Go.Proofs.YtiopgkdldkkonaaDoor
namespace Go.Proofs.YtiopgkdldkkonaaDoor
open Go.RowKit Go.Proofs.YtiopgkdldkkonaaDoorW.PrintWords Go.Proofs.YtiopgkdldkkonaaDoor.Num Go.Proofs.YtiopgkdldkkonaaDoor.Pn
set_option linter.unusedVariables false
set_option linter.unusedSimpArgs false

abbrev str (l : List UInt8) : ByteArray := ⟨l.toArray⟩
theorem str_size (l : List UInt8) : (str l).size = l.length := by simp [ByteArray.size]
theorem str_extract (l : List UInt8) (a b : Nat) : (str l).extract a b = str ((l.take b).drop a) := by
  apply ByteArray.ext
  simp [ByteArray.data_extract, List.drop_take]

set_option maxHeartbeats 1000000 in
set_option maxRecDepth 100000 in
theorem cut_any (l : List UInt8) (hl : l.length ≤ 100000) (w : World) :
    Calls Tryd.prog 49 #[.string (str l)] w fun e w' => e = .returned (.tuple #[.string (str (cutL l).1), .string (str (cutL l).2.1), .bool (cutL l).2.2]) ∧ Drawn0 w w' := by
  have hix := cut_index l
  have hp := cut_parts l
  have hlen := cut_len l
  have hno := cut_no l
  obtain ⟨a, ha⟩ : ∃ a, a = (cutL l).1 := ⟨_, rfl⟩
  obtain ⟨b, hb⟩ : ∃ b, b = (cutL l).2.1 := ⟨_, rfl⟩
  obtain ⟨f, hf⟩ : ∃ f, f = (cutL l).2.2 := ⟨_, rfl⟩
  rw [← ha, ← hb, ← hf] at hp hlen ⊢
  rw [← ha, ← hf] at hix
  rw [← hb, ← hf] at hno
  clear ha hb hf
  have hs : (str l).size = l.length := str_size l
  cases f with
  | false =>
    rw [if_neg (by simp)] at hix hp
    have hb := hno (by simp)
    subst hb
    subst hp
    clear hno hlen
    have HIX := Lib.hid hix
    clear hix hs
    go_enter Tryd.func49, Tryd.ntmps49
    go_wp2_with fail
    refine (Tryd.strings_IndexByte (str l) 46 w).mono ?_
    rintro e w1 ⟨rfl, rfl⟩
    rw [show Lib.indexByte (str l).data.toList (46 : Int).toNat.toUInt8 = -1 from HIX.out]
    go_wp2
    go_ret3
    exact ⟨rfl, .refl _⟩
  | true =>
    rw [if_pos rfl] at hix hp
    clear hno
    obtain ⟨n, hn⟩ : ∃ n, n = a.length := ⟨_, rfl⟩
    obtain ⟨m, hm⟩ : ∃ m, m = l.length := ⟨_, rfl⟩
    have h1 : n < m := by rw [hn, hm]; exact (hlen.2 rfl).2
    rw [← hn] at hix
    have e1 : (str l).extract 0 n = str a := by rw [str_extract, hp, hn]; simp
    have e2 : (str l).extract (n + 1) m = str b := by
      rw [str_extract, hm, List.take_of_length_le (Nat.le_refl _), hp, hn]; simp
    rw [← hm] at hs hl
    have HIX := Lib.hid hix
    have HE := Lib.hid (And.intro e1 e2)
    obtain ⟨s, hss⟩ : ∃ s, s = str l := ⟨_, rfl⟩
    rw [← hss] at hs ⊢
    rw [← hss] at HE
    have HSS := Lib.hid hss
    clear hix e1 e2 hp hlen hn hm hss
    go_enter Tryd.func49, Tryd.ntmps49
    go_wp2_with fail
    refine (Tryd.strings_IndexByte s 46 w).mono ?_
    rintro e w1 ⟨rfl, rfl⟩
    rw [show Lib.indexByte s.data.toList (46 : Int).toNat.toUInt8 = (n : Int) from by rw [HSS.out]; exact HIX.out]
    go_wp2
    go_region
    go_wp2
    go_ret3
    exact ⟨by rw [← HE.out.1, ← HE.out.2]; rfl, ⟨⟨1, rfl⟩⟩⟩
end Go.Proofs.YtiopgkdldkkonaaDoor
namespace Go.Proofs.YtiopgkdldkkonaaDoor
open Go.RowKit Go.Proofs.YtiopgkdldkkonaaDoorW.PrintWords Go.Proofs.YtiopgkdldkkonaaDoor.Num Go.Proofs.YtiopgkdldkkonaaDoor.Pn
set_option linter.unusedVariables false
set_option linter.unusedSimpArgs false

/-! ### plain -/
theorem okChar_dig {x : UInt8} (h : okChar x = true) (h46 : x ≠ 46) : isDig x := by
  unfold okChar isDigB at h
  unfold isDig
  have : ¬ x.toNat = 46 := fun e => h46 (by
    have : x = UInt8.ofNat x.toNat := by simp
    rw [this, e]; rfl)
  simp [this] at h
  exact h
theorem next_any (l : List UInt8) (i : Nat) (hi : i < l.length) (w : World) : ∃ (r : Int) (d : Nat), (∀ ty, (Instr.next (.pointer (some ⟨w.heap.size, 0, none⟩)) true ty).run Tryd.prog (w.iter (str l) i) = .ok (.tuple #[.bool true, .int .i64 i, .int .i32 r]) (w.iter (str l) (i + d))) ∧
    0 ≤ r ∧ r ≤ 2147483647 ∧ (okChar l[i] = true → d = 1 ∧ ((48 ≤ r ∧ r ≤ 57) ∨ r = 46)) ∧ (okChar l[i] = false → ¬ (48 ≤ r ∧ r ≤ 57) ∧ r ≠ 46) := by
  have hs : i < (str l).size := by rw [str_size]; exact hi
  have hg : (str l)[i]'hs = l[i] := rfl
  have hlt := l[i].toNat_lt
  by_cases ha : l[i].toNat < 128
  · refine ⟨(l[i].toNat : Int), 1, fun ty => ?_, by omega, by omega, ?_, ?_⟩
    · rw [run_next_ascii w (str l) i ty hs (by rw [hg]; exact ha)]; rfl
    · intro h; unfold okChar isDigB at h; simp at h; exact ⟨rfl, by omega⟩
    · intro h; unfold okChar isDigB at h; simp at h; omega
  · have h1 := decode_high (str l) i hs (by rw [hg]; omega)
    have h2 := decode_le (str l) i
    refine ⟨((Utf8.decode (str l) i).1 : Int), (Utf8.decode (str l) i).2, fun ty => run_next_any w (str l) i ty hs, by omega, by omega, ?_, ?_⟩
    · intro h; unfold okChar isDigB at h; simp at h; omega
    · intro h; omega
theorem enc_dec_len {p : List UInt8} (h : ∀ x ∈ p, isDig x) : (enc (decVal p)).length ≤ p.length + 1 := by
  have h1 := decVal_lt h
  have h2 : 10 ^ p.length ≤ 128 ^ p.length := Nat.pow_le_pow_left (by omega) _
  have h3 := encHi_len (m := decVal p / 128) (k := p.length) (Nat.lt_of_le_of_lt (Nat.div_le_self _ _) (by omega))
  unfold enc
  simp; omega
theorem enc_dec_len2 {p : List UInt8} (h : ∀ x ∈ p, isDig x) {a : Nat} (ha : a ≤ 2) : (enc (a * 40 + decVal p)).length ≤ p.length + 2 := by
  have h1 := decVal_lt h
  have h2 : 10 ^ p.length ≤ 128 ^ p.length := Nat.pow_le_pow_left (by omega) _
  have h4 : 1 ≤ 128 ^ p.length := Nat.one_le_pow _ _ (by omega)
  have h3 := encHi_len (m := (a * 40 + decVal p) / 128) (k := p.length + 1) (Nat.lt_of_le_of_lt (Nat.div_le_self _ _) (by rw [Nat.pow_succ]; omega))
  unfold enc
  simp; omega

/-- What unmarshalOIDText leaves. -/
def PaPost (w : World) (b : Nat) (l : List UInt8) (e : Ending) (w' : World) : Prop :=
  match parse l with
  | some d => e = .returned .nilIface ∧ ∃ A c, w'.heap[b]? = some (.cells #[.slice A d.length c] 39 (0, 0)) ∧ Kd.R (Kd.int .u8) 5 w' w.heap.size (fun _ => True) (.slice A d.length c) (ints d) ∧ Ch w w' (fun k => k = b)
  | none => e = .returned badOID ∧ Below w.heap.size w w'
theorem pa_none {w w' : World} {b : Nat} {l : List UInt8} (hp : parse l = none) (hB : Below w.heap.size w w') : PaPost w b l (.returned badOID) w' := by
  unfold PaPost; rw [hp]; exact ⟨rfl, hB⟩
theorem pa_some {w w1 : World} {b : Nat} {l d : List UInt8} {x : Value} {A : Option Addr} {c : Nat} (hp : parse l = some d) (hb : w.heap[b]? = some (.cells #[x] 39 (0, 0))) (hB : Below w.heap.size w w1) (hR : Kd.R (Kd.int .u8) 5 w1 w.heap.size (fun _ => True) (.slice A d.length c) (ints d)) :
    PaPost w b l (.returned .nilIface) (w1.setCell ⟨b, 0, none⟩ (.slice A d.length c)) := by
  have hb1 := (hB.block b (blk_lt hb)).trans hb
  unfold PaPost
  rw [hp]
  exact ⟨rfl, A, c, (blk_set hb1 0 _).trans rfl, Kd.R_set hR hb1 (by intro q hq; simp [Kd.int, Kd.scalar] at hq; subst hq; decide) 0 _, (Ch.of_below' hB (fun k => k = b)).setCell ⟨b, 0, none⟩ (fun _ => rfl) _⟩

theorem parse_bad {l : List UInt8} {i : Nat} (hi : i < l.length) (h : okChar l[i] = false) : parse l = none := by
  unfold parse
  rw [if_neg]
  intro ha
  have := List.all_eq_true.1 ha l[i] (List.getElem_mem _)
  rw [h] at this; cases this

theorem pow_up2 (n N : Nat) (h : n + 2 ≤ 2 * N) : 10 ^ (n + 2) ≤ (10 ^ 2) ^ N := by
  rw [← Nat.pow_mul]
  exact Nat.pow_le_pow_right (by omega) h
theorem decVal_lim80 {l : List UInt8} (h : ∀ x ∈ l, isDig x) (hl : l.length ≤ 200) {a : Nat} (ha : a ≤ 80) : a + decVal l < lim := by
  have h1 := decVal_lt h
  have h2 := pow_up2 l.length 200 (by omega)
  have h3 : (10 ^ 2) ^ 200 ≤ lim := by unfold lim; exact Nat.pow_le_pow_left (by decide) 200
  have h4 : 1 ≤ 10 ^ l.length := Nat.one_le_pow _ _ (by omega)
  have h5 : 10 ^ (l.length + 2) = 10 ^ l.length * 10 * 10 := by rw [Nat.pow_succ, Nat.pow_succ]
  omega

set_option maxHeartbeats 16000000 in
set_option maxRecDepth 100000 in
theorem unmarshalText_any (b : Nat) (x0 : Value) (l : List UInt8) (hl : l.length ≤ 200) (w : World) (hb : w.heap[b]? = some (.cells #[x0] 39 (0, 0))) :
    Calls Tryd.prog 37 #[.pointer (some ⟨b, 0, none⟩), .string (str l)] w fun e w' => PaPost w b l e w' := by
  have hN : ∀ (w' : World), parse l = none → Below w.heap.size w w' → PaPost w b l (.returned (.iface 56 (.string ⟨#[105, 110, 118, 97, 108, 105, 100, 32, 111, 105, 100]⟩))) w' := fun w' hp hB => pa_none hp hB
  have HN := Lib.hid hN
  have HB := Lib.hid hb
  have HS : Hid (∀ (w1 : World) (d : List UInt8) (A : Option Addr) (c : Nat), parse l = some d → Below w.heap.size w w1 → Kd.R (Kd.int .u8) 5 w1 w.heap.size (fun _ => True) (.slice A d.length c) (ints d) → PaPost w b l (.returned .nilIface) (w1.setCell ⟨b, 0, none⟩ (.slice A d.length c))) := Lib.hid fun w1 d A c hp hB hR => pa_some hp hb hB hR
  generalize hP : PaPost w b l = P at *
  clear hN hb hP
  go_enter Tryd.func37, Tryd.ntmps37
  go_wp2_with fail
  go_loopg [6, 7] l.length (fun gk s6 s7 wr => ∃ i : Nat, i ≤ l.length ∧ gk = l.length - i ∧ wr = w.iter (str l) i ∧ (l.take i).all okChar = true)
  case atStart => exact ⟨0, Nat.zero_le _, rfl, rfl, by simp⟩
  case round =>
    obtain ⟨i, hi, rfl, rfl, hall⟩ := hrel
    have HALL := Lib.hid hall
    clear hall
    by_cases hin : i < l.length
    · obtain ⟨r, d, hnx, hr0, hr1, hok, hbad⟩ := next_any l i hin w
      cases ho : okChar l[i] with
      | true =>
        obtain ⟨rfl, hr⟩ := hok ho
        have HO := Lib.hid ho
        have hb1 : r = 46 ∨ (decide (48 ≤ r) = true ∧ decide (r ≤ 57) = true) := by
          rcases hr with h | h
          · exact .inr ⟨by simp [h.1], by simp [h.2]⟩
          · exact .inl h
        clear hok hbad ho hr
        rcases hb1 with rfl | ⟨h48, h57⟩
        · go_wp2_with fail
          go_roundg (l.length - (i + 1))
          case measure => omega
          case rel => exact ⟨i + 1, by omega, rfl, rfl, by rw [List.take_succ_eq_append_getElem hin, List.all_append, HALL.out]; simp [HO.out]⟩
        · go_wp2_with fail
          all_goals
            go_roundg (l.length - (i + 1))
            case measure => omega
            case rel => exact ⟨i + 1, by omega, rfl, rfl, by rw [List.take_succ_eq_append_getElem hin, List.all_append, HALL.out]; simp [HO.out]⟩
      | false =>
        have hb1 := hbad ho
        have HP := Lib.hid (parse_bad hin ho)
        have h46 : (r == 46) = false := by rw [beq_eq_false_iff_ne]; exact hb1.2
        have h46' : ¬ r = 46 := hb1.2
        have hB : Below w.heap.size w (w.iter (str l) (i + d)) := (Below.refl _ _).alloc (Nat.le_refl _) _
        have HBW := Lib.hid hB
        have hb2 : (¬ 48 ≤ r) ∨ (48 ≤ r ∧ ¬ r ≤ 57) := by omega
        clear hok hbad ho hB hb1
        rcases hb2 with h48 | ⟨h48, h57⟩
        · go_wp2_with fail
          exact HN.out _ HP.out HBW.out
        · go_wp2_with fail
          exact HN.out _ HP.out HBW.out
    · obtain rfl : i = l.length := by omega
      have hnx : ∀ ty, (Instr.next (.pointer (some ⟨w.heap.size, 0, none⟩)) true ty).run Tryd.prog (w.iter (str l) l.length) = .ok (.tuple #[.bool false]) (w.iter (str l) l.length) := fun ty => run_next_end w (str l) l.length ty (by rw [str_size]; omega)
      have hall := HALL.out
      rw [List.take_of_length_le (Nat.le_refl _)] at hall
      have hpar : parse l = parseP (pieces l) := by unfold parse; rw [if_pos hall]
      have hch := fun x hx => List.all_eq_true.1 hall x hx
      rw [pieces_cut] at hpar
      obtain ⟨W1, hW1⟩ : ∃ W1, W1 = w.iter (str l) l.length := ⟨_, rfl⟩
      have hB1 : Below w.heap.size w W1 := by rw [hW1]; exact (Below.refl _ _).alloc (Nat.le_refl _) _
      have hc1 := cut_sub l
      have hc2 := cut_no46 l
      have hc3 := cut_len l
      have hc4 := cut_any l (by omega)
      obtain ⟨a, ha⟩ : ∃ a, a = (cutL l).1 := ⟨_, rfl⟩
      obtain ⟨r1, hr1⟩ : ∃ r1, r1 = (cutL l).2.1 := ⟨_, rfl⟩
      obtain ⟨f1, hf1⟩ : ∃ f1, f1 = (cutL l).2.2 := ⟨_, rfl⟩
      unfold more at hpar
      rw [← ha, ← hr1, ← hf1] at hc4 hc3
      rw [← ha, ← hr1] at hc1
      rw [← ha] at hc2
      rw [← ha, ← hr1, ← hf1] at hpar
      have hda : ∀ x ∈ a, isDig x := fun x hx => okChar_dig (hch x (hc1.1 x hx)) (hc2 x hx)
      have hcr1 : ∀ x ∈ r1, okChar x = true := fun x hx => hch x (hc1.2 x hx)
      have H1 := Lib.hid (And.intro hB1 (And.intro hda hcr1))
      have HC4 := Lib.hid hc4
      have HPAR := Lib.hid hpar
      have HL3 := Lib.hid hc3
      rw [← hW1] at hnx ⊢
      clear hall HALL hpar hch hB1 hc1 hc2 hc3 hc4 ha hr1 hf1 hda hcr1
      have HW1 := Lib.hid hW1
      clear hW1
      go_wp2_with fail
      refine (HC4.out W1).mono ?_
      rintro e W2 ⟨rfl, hD⟩
      have H2 := Lib.hid (H1.out.1.trans (hD.below.mono H1.out.1.size))
      clear hD
      cases f1 with
      | false =>
        have HP : Hid (parse l = none) := Lib.hid (by rw [HPAR.out, if_neg (by simp)]; rfl)
        go_wp2_with fail
        exact HN.out _ HP.out H2.out
      | true =>
        have hpar := HPAR.out
        rw [if_pos rfl, pieces_cut] at hpar
        have hl1 : r1.length ≤ 200 := by have := HL3.out.1; omega
        have hal : a.length ≤ 200 := by have := HL3.out.1; omega
        have hc1 := cut_sub r1
        have hc2 := cut_no46 r1
        have hc3 := cut_len r1
        have hc4 := cut_any r1 (by omega)
        obtain ⟨b', hb'⟩ : ∃ b', b' = (cutL r1).1 := ⟨_, rfl⟩
        obtain ⟨r2, hr2⟩ : ∃ r2, r2 = (cutL r1).2.1 := ⟨_, rfl⟩
        obtain ⟨f2, hf2⟩ : ∃ f2, f2 = (cutL r1).2.2 := ⟨_, rfl⟩
        unfold more at hpar
        rw [← hb', ← hr2, ← hf2] at hc4 hc3 hpar
        rw [← hb', ← hr2] at hc1
        rw [← hb'] at hc2
        have hdb : ∀ x ∈ b', isDig x := fun x hx => okChar_dig (H1.out.2.2 x (hc1.1 x hx)) (hc2 x hx)
        have hcr2 : ∀ x ∈ r2, okChar x = true := fun x hx => H1.out.2.2 x (hc1.2 x hx)
        have hbl : b'.length ≤ 200 := by have := hc3.1; have := (HL3.out.2 rfl).1; have := (HL3.out.2 rfl).2; by_cases h : f2 = true <;> omega
        have hrl : r2.length + b'.length ≤ 200 := by have := hc3.1; omega
        have HC4b := Lib.hid hc4
        have HPAR2 := Lib.hid hpar
        have HD := Lib.hid (And.intro H1.out.2.1 (And.intro hdb hcr2))
        have HL2 := Lib.hid (And.intro hal (And.intro hbl hrl))
        clear hpar hc1 hc2 hc3 hc4 hb' hr2 hf2 hdb hcr2 HPAR HC4 HL3 hl1 hal hbl hrl
        go_wp2_with fail
        refine (HC4b.out W2).mono ?_
        rintro e W3 ⟨rfl, hD⟩
        have H3 := Lib.hid (H2.out.trans (hD.below.mono H2.out.size))
        clear hD
        go_wp2_with fail
        refine (newInt_any 0 (by omega) W3).mono ?_
        rintro e W4 ⟨rfl, ⟨va, hga, _⟩, hB4⟩
        obtain ⟨g1, hg1⟩ : ∃ g1, g1 = W3.heap.size := ⟨_, rfl⟩
        rw [← hg1] at hga ⊢
        have H4 := Lib.hid (And.intro hga (And.intro (H3.out.trans (hB4.mono H3.out.size)) (show w.heap.size ≤ g1 from by rw [hg1]; exact H3.out.size)))
        clear hga hB4 hg1
        go_wp2_with fail
        refine (newInt_any 0 (by omega) W4).mono ?_
        rintro e W5 ⟨rfl, ⟨vb, hgb, _⟩, hB5⟩
        obtain ⟨g2, hg2⟩ : ∃ g2, g2 = W4.heap.size := ⟨_, rfl⟩
        rw [← hg2] at hgb ⊢
        have hg12 : g1 < g2 := by rw [hg2]; exact blk_lt H4.out.1
        have H5 := Lib.hid (And.intro ((hB5.block g1 (blk_lt H4.out.1)).trans H4.out.1) (And.intro hgb (And.intro (H4.out.2.1.trans (hB5.mono H4.out.2.1.size)) (And.intro H4.out.2.2 hg12))))
        clear hgb hB5 hg2 hg12
        go_wp2_with fail
        by_cases ha0 : a = []
        · subst ha0
          have HP : Hid (parse l = none) := Lib.hid (by rw [HPAR2.out]; simp [parseP])
          refine (setString_none g1 W5).mono ?_
          rintro e W6 ⟨rfl, rfl⟩
          go_wp2_with fail
          exact HN.out _ HP.out H5.out.2.2.1
        · refine (setString_some g1 a HD.out.1 HL2.out.1 ha0 _ _ W5 H5.out.1).mono ?_
          rintro e W6 ⟨rfl, hP6⟩
          have H6 := Lib.hid (And.intro hP6.1 (And.intro (hP6.2.blk H5.out.2.1 (fun e => by have := H5.out.2.2.2.2; omega)) (H5.out.2.2.1.trans (hP6.2.below H5.out.2.2.1.size (fun k e => by rw [e]; exact H5.out.2.2.2.1)))))
          have HA0 := Lib.hid ha0
          have hg2 : g2 < W5.heap.size := blk_lt H5.out.2.1
          have HG2 := Lib.hid hg2
          have HW56 := Lib.hid hP6.2.size
          clear hP6 ha0 hg2
          go_wp2_with fail
          by_cases hb0 : b' = []
          · subst hb0
            have HP : Hid (parse l = none) := Lib.hid (by rw [HPAR2.out]; simp [parseP])
            refine (setString_none g2 W6).mono ?_
            rintro e W7 ⟨rfl, rfl⟩
            go_wp2_with fail
            exact HN.out _ HP.out H6.out.2.2
          · refine (setString_some g2 b' HD.out.2.1 HL2.out.2.1 hb0 _ _ W6 H6.out.2.1).mono ?_
            rintro e W7 ⟨rfl, hP7⟩
            have hI1 : It W7 g1 (decVal a) (fun k => W5.heap.size ≤ k) := H6.out.1.ch hP7.2 (fun e => by have := H5.out.2.2.2.2; omega) (fun k hk _ e => by have := HG2.out; omega)
            have hB7 : Below w.heap.size w W7 := H6.out.2.2.trans (hP7.2.below H6.out.2.2.size (fun k e => by have := H5.out.2.2.2; omega))
            have hpar : parse l = if 2 < decVal a then none else if decVal a < 2 ∧ 40 ≤ decVal b' then none else finP (enc (decVal a * 40 + decVal b')) (if f2 = true then pieces r2 else []) := by
              rw [HPAR2.out, parseP, if_neg HA0.out, if_neg hb0]
            have hma := decVal_lim80 HD.out.1 (by have := HL2.out.1; omega) (a := 0) (by omega)
            have hmb := decVal_lim80 HD.out.2.1 (by have := HL2.out.2.1; omega) (a := 80) (by omega)
            have hen : ∀ k, k ≤ 2 → (enc (k * 40 + decVal b')).length ≤ b'.length + 2 := fun k hk => enc_dec_len2 HD.out.2.1 hk
            obtain ⟨m, hm⟩ : ∃ m, m = decVal a := ⟨_, rfl⟩
            obtain ⟨n, hn⟩ : ∃ n, n = decVal b' := ⟨_, rfl⟩
            rw [← hm] at hI1 hpar hma
            rw [← hn] at hpar hmb hen
            have hI2 := hP7.1
            rw [← hn] at hI2
            have H7 := Lib.hid (And.intro hI1 (And.intro hI2 hB7))
            have HPAR3 := Lib.hid hpar
            have HLIM := Lib.hid (And.intro hma hmb)
            have HEN := Lib.hid hen
            have HG1 := Lib.hid H5.out.2.2.2
            have hg1lt : g1 < W7.heap.size := hI1.lt
            have hg2lt : g2 < W7.heap.size := hI2.lt
            have HGL := Lib.hid (And.intro hg1lt hg2lt)
            clear hI1 hI2 hB7 hpar hma hmb hen hm hn hP7 hb0 H6 HA0 HPAR2 H5 hg1lt hg2lt
            go_upto_region 22 with fail
            go_cut [90] (fun s90 wx => ∃ bad : Bool, s90 = .bool bad ∧ (bad = true → parse l = none) ∧ (bad = false → m ≤ 2 ∧ parse l = finP (enc (m * 40 + n)) (if f2 = true then pieces r2 else [])) ∧ It wx g1 m (fun k => W5.heap.size ≤ k) ∧ It wx g2 n (fun k => W6.heap.size ≤ k) ∧ Below w.heap.size w wx)
            case first =>
              go_wp2_with fail
              refine (newInt_any 2 (by omega) W7).mono ?_
              rintro e W8 ⟨rfl, hI8, hB8⟩
              have H8 := Lib.hid (And.intro ((H7.out.1.step hB8).mono (fun k hk => hk.1)) (And.intro ((H7.out.2.1.step hB8).mono (fun k hk => hk.1)) (And.intro (H7.out.2.2.trans (hB8.mono H7.out.2.2.size)) hI8)))
              clear hI8 hB8
              go_wp2_with fail
              refine (cmp_int g1 W7.heap.size m 2 (by have := HGL.out.1; omega) (by have := HLIM.out.1; omega) _ _ W8 H8.out.1 H8.out.2.2.2).mono ?_
              rintro e W9 ⟨rfl, hD⟩
              have H9 := Lib.hid (And.intro ((H8.out.1.step hD.below).mono (fun k hk => hk.1)) (And.intro ((H8.out.2.1.step hD.below).mono (fun k hk => hk.1)) (H8.out.2.2.1.trans (hD.below.mono H8.out.2.2.1.size))))
              clear hD
              have hg1 : g1 < W9.heap.size := H9.out.1.lt
              have hg2 : g2 < W9.heap.size := H9.out.2.1.lt
              have HG9 := Lib.hid (And.intro hg1 hg2)
              clear hg1 hg2
              by_cases hm3 : 2 < m
              · have hc : cmpN m 2 = 1 := by unfold cmpN; rw [if_neg (by omega), if_neg (by omega)]
                rw [hc]
                have hp : parse l = none := by rw [HPAR3.out, if_pos hm3]
                have HP := Lib.hid hp
                clear hc hp
                go_wp2_with fail
                go_meet
                exact ⟨true, rfl, (fun _ => HP.out), (fun h => by cases h), H9.out⟩
              · by_cases hm2 : m < 2
                · have hc : cmpN m 2 = -1 := by unfold cmpN; rw [if_pos hm2]
                  rw [hc]
                  have HC := Lib.hid hc
                  have HM := Lib.hid (And.intro hm3 hm2)
                  clear hc hm3 hm2
                  go_wp2_with fail
                  refine (newInt_any 2 (by omega) W9).mono ?_
                  rintro e W10 ⟨rfl, hI10, hB10⟩
                  have H10 := Lib.hid (And.intro ((H9.out.1.step hB10).mono (fun k hk => hk.1)) (And.intro ((H9.out.2.1.step hB10).mono (fun k hk => hk.1)) (And.intro (H9.out.2.2.trans (hB10.mono H9.out.2.2.size)) hI10)))
                  clear hI10 hB10
                  go_wp2_with fail
                  refine (cmp_int g1 W9.heap.size m 2 (by have := HG9.out.1; omega) (by have := HLIM.out.1; omega) _ _ W10 H10.out.1 H10.out.2.2.2).mono ?_
                  rintro e W11 ⟨rfl, hD⟩
                  rw [HC.out]
                  have H11 := Lib.hid (And.intro ((H10.out.1.step hD.below).mono (fun k hk => hk.1)) (And.intro ((H10.out.2.1.step hD.below).mono (fun k hk => hk.1)) (H10.out.2.2.1.trans (hD.below.mono H10.out.2.2.1.size))))
                  clear hD
                  go_wp2_with fail
                  refine (newInt_any 40 (by omega) W11).mono ?_
                  rintro e W12 ⟨rfl, hI12, hB12⟩
                  have H12 := Lib.hid (And.intro ((H11.out.1.step hB12).mono (fun k hk => hk.1)) (And.intro ((H11.out.2.1.step hB12).mono (fun k hk => hk.1)) (And.intro (H11.out.2.2.trans (hB12.mono H11.out.2.2.size)) hI12)))
                  have hg2n : g2 < W11.heap.size := H11.out.2.1.lt
                  have HG2N := Lib.hid hg2n
                  clear hI12 hB12 hg2n
                  go_wp2_with fail
                  refine (cmp_int g2 W11.heap.size n 40 (by have := HG2N.out; omega) (by have := HLIM.out.2; omega) _ _ W12 H12.out.2.1 H12.out.2.2.2).mono ?_
                  rintro e W13 ⟨rfl, hD⟩
                  have H13 := Lib.hid (And.intro ((H12.out.1.step hD.below).mono (fun k hk => hk.1)) (And.intro ((H12.out.2.1.step hD.below).mono (fun k hk => hk.1)) (H12.out.2.2.1.trans (hD.below.mono H12.out.2.2.1.size))))
                  clear hD
                  by_cases hn : n < 40
                  · have hc2 : cmpN n 40 = -1 := by unfold cmpN; rw [if_pos hn]
                    rw [hc2]
                    have HNN := Lib.hid hn
                    clear hc2 hn
                    go_wp2_with fail
                    go_meet
                    exact ⟨false, rfl, (fun h => by cases h), (fun _ => ⟨by have := HM.out.1; omega, by rw [HPAR3.out, if_neg HM.out.1, if_neg (by have := HNN.out; omega)]⟩), H13.out⟩
                  · obtain ⟨cc, hcc⟩ : ∃ cc, cc = cmpN n 40 := ⟨_, rfl⟩
                    have hcc0 : 0 ≤ cc := by rw [hcc]; unfold cmpN; rw [if_neg hn]; split <;> omega
                    rw [← hcc]
                    have HNN := Lib.hid hn
                    clear hcc hn
                    go_wp2_with fail
                    go_meet
                    exact ⟨true, rfl, (fun _ => by rw [HPAR3.out, if_neg HM.out.1, if_pos ⟨HM.out.2, by have := HNN.out; omega⟩]), (fun h => by cases h), H13.out⟩
                · have hc : cmpN m 2 = 0 := by unfold cmpN; rw [if_neg hm2, if_pos (by omega)]
                  rw [hc]
                  have HC := Lib.hid hc
                  have HM := Lib.hid (And.intro hm3 hm2)
                  clear hc hm3 hm2
                  go_wp2_with fail
                  refine (newInt_any 2 (by omega) W9).mono ?_
                  rintro e W10 ⟨rfl, hI10, hB10⟩
                  have H10 := Lib.hid (And.intro ((H9.out.1.step hB10).mono (fun k hk => hk.1)) (And.intro ((H9.out.2.1.step hB10).mono (fun k hk => hk.1)) (And.intro (H9.out.2.2.trans (hB10.mono H9.out.2.2.size)) hI10)))
                  clear hI10 hB10
                  go_wp2_with fail
                  refine (cmp_int g1 W9.heap.size m 2 (by have := HG9.out.1; omega) (by have := HLIM.out.1; omega) _ _ W10 H10.out.1 H10.out.2.2.2).mono ?_
                  rintro e W11 ⟨rfl, hD⟩
                  rw [HC.out]
                  have H11 := Lib.hid (And.intro ((H10.out.1.step hD.below).mono (fun k hk => hk.1)) (And.intro ((H10.out.2.1.step hD.below).mono (fun k hk => hk.1)) (H10.out.2.2.1.trans (hD.below.mono H10.out.2.2.1.size))))
                  clear hD
                  go_wp2_with fail
                  go_meet
                  exact ⟨false, rfl, (fun h => by cases h), (fun _ => ⟨by have := HM.out.1; omega, by rw [HPAR3.out, if_neg HM.out.1, if_neg (by have := HM.out.2; omega)]⟩), H11.out⟩
            case rest =>
              obtain ⟨bad, rfl, hbad, hgood, hI1, hI2, hB⟩ := hcut
              have HCUT := Lib.hid (And.intro hI1 (And.intro hI2 hB))
              have HBAD := Lib.hid (And.intro hbad hgood)
              clear hbad hgood hI1 hI2 hB
              cases bad with
              | true =>
                have HP := Lib.hid (HBAD.out.1 rfl)
                go_wp2_with fail
                exact HN.out _ HP.out HCUT.out.2.2
              | false =>
                obtain ⟨hm2, hpar⟩ := HBAD.out.2 rfl
                have HPAR4 := Lib.hid hpar
                clear HBAD HPAR3 hpar
                have hg1c : g1 < wc.heap.size := HCUT.out.1.lt
                have HG1C := Lib.hid hg1c
                clear hg1c
                go_wp2_with fail
                refine (newInt_any 40 (by omega) wc).mono ?_
                rintro e Wa ⟨rfl, hIa, hBa⟩
                have HA := Lib.hid (And.intro ((HCUT.out.1.step hBa).mono (fun k hk => hk.1)) (And.intro ((HCUT.out.2.1.step hBa).mono (fun k hk => hk.1)) (And.intro (HCUT.out.2.2.trans (hBa.mono HCUT.out.2.2.size)) hIa)))
                clear hIa hBa
                go_wp2_with fail
                refine (mul40_int g1 wc.heap.size m (by have := HG1C.out; omega) hm2 _ _ Wa HA.out.1 HA.out.2.2.2).mono ?_
                rintro e Wb ⟨rfl, hPb⟩
                have hIb2 : It Wb g2 n (fun k => W6.heap.size ≤ k) := HA.out.2.1.ch hPb.2 (fun e => by have := HG1.out.2; omega) (fun k hk hlt e => by have := HG1.out.2; have := HG2.out; have := HW56.out; omega)
                obtain ⟨vb1, hb1, _⟩ := hPb.1
                have HBB := Lib.hid (And.intro hb1 (And.intro hPb.1 (And.intro hIb2 (HA.out.2.2.1.trans (hPb.2.below HA.out.2.2.1.size (fun k e => by rw [e]; exact HG1.out.1))))))
                clear hPb hIb2 hb1
                go_wp2_with fail
                refine (add_int g1 g1 g2 (m * 40) n (by have := HLIM.out.2; omega) (by have := HLIM.out.2; omega) _ _ _ _ Wb HBB.out.1 HBB.out.2.1 HBB.out.2.2.1).mono ?_
                rintro e Wc ⟨rfl, hPc⟩
                have hBc : Below w.heap.size w Wc := HBB.out.2.2.2.trans (hPc.2.below HBB.out.2.2.2.size (fun k e => by rw [e]; exact HG1.out.1))
                obtain ⟨i0, hi, hz0, hz1, hz2⟩ := info_parts info5
                obtain ⟨Wd, hmk, hown, hgr⟩ := run_make_own (P := Tryd.prog) Wc w.heap.size 23 5 i0 (.int .u8 0) 1 Tryd.underlying23 hi hz0 hz1 .i64 .i64 32 (by rw [hz2]; omega) (by unfold maxLen; omega) hBc.size
                rw [show ((32 : Nat) : Int) = 32 from rfl] at hmk
                have hch : Ch Wc Wd (fun _ => False) := Ch.of_grown hgr (fun k hk => by cases hk)
                have hRd : Kd.R (Kd.int .u8) 5 Wd w.heap.size (fun _ => True) (.slice (some ⟨Wc.heap.size, 0, none⟩) ([] : List UInt8).length 32) (ints []) := Kd.R_of_own (enc := Value.int .u8) hown (fun _ _ => trivial)
                have hId : It Wd g1 (m * 40 + n) (fun k => Wb.heap.size ≤ k ∧ k < Wc.heap.size) := hPc.1.bound.ch hch (fun h => h) (fun _ _ _ h => h)
                have hg1c : g1 < Wc.heap.size := hPc.1.lt
                have HDD := Lib.hid (And.intro hRd (And.intro hId (And.intro (hBc.trans (hch.below hBc.size (fun _ h => h.elim))) hg1c)))
                clear hi hz0 hz1 hz2 hown hgr hch hRd hId hg1c hPc hBc
                go_wp2_with fail
                refine (append128_any w.heap.size g1 (m * 40 + n) (by have := HLIM.out.2; omega) _ (some ⟨Wc.heap.size, 0, none⟩) 32 [] (by simp) Wd HDD.out.2.2.1.size HDD.out.2.1 HDD.out.1 (fun k hk => by
                  have hk' : Wc.heap.size = k := by simpa [Value.ownBlock] using hk
                  have := HDD.out.2.2.2
                  exact ⟨fun h => by omega, by omega⟩)).mono ?_
                rintro e We ⟨v0, rfl, ⟨Ae, ce, rfl⟩, hRe, _, hCe⟩
                have hBe : Below w.heap.size w We := HDD.out.2.2.1.trans (hCe.below HDD.out.2.2.1.size (fun k e => by
                  have : Wc.heap.size = k := by simpa [Value.ownBlock] using e.symm
                  have := HDD.out.2.2.1.size
                  have := HG1.out.1
                  have := HDD.out.2.2.2
                  omega))
                obtain ⟨d0, hd0⟩ : ∃ d0, d0 = [] ++ enc (m * 40 + n) := ⟨_, rfl⟩
                rw [← hd0] at hRe ⊢
                have hlen0 : d0.length + 2 * r2.length ≤ 1000 := by
                  rw [hd0, List.nil_append]
                  have := HEN.out m hm2
                  have := HL2.out.2.2
                  have := HL2.out.2.1
                  omega
                have hpar0 : parse l = finP d0 (if f2 = true then pieces r2 else []) := by rw [HPAR4.out, hd0, List.nil_append]
                have HEE := Lib.hid (And.intro hRe (And.intro hBe (And.intro hlen0 hpar0)))
                obtain ⟨mm0, hmm0⟩ : ∃ mm0, mm0 = d0.length := ⟨_, rfl⟩
                have HMM0 := Lib.hid hmm0
                rw [← hmm0]
                clear hRe hBe hCe hlen0 hpar0 hmm0 hd0
                go_wp2_with fail
                go_loopg [1, 10, 18] (if f2 = true then r2.length + 1 else 0) (fun gk s1 s10 s18 wr => ∃ (r : List UInt8) (f : Bool) (A : Option Addr) (mm c : Nat) (d : List UInt8), s1 = .string (str r) ∧ s10 = .bool f ∧ s18 = .slice A mm c ∧ mm = d.length ∧ gk = (if f = true then r.length + 1 else 0) ∧ (∀ x ∈ r, okChar x = true) ∧ r.length ≤ 200 ∧ d.length + 2 * r.length ≤ 1000 ∧ parse l = finP d (if f = true then pieces r else []) ∧ Kd.R (Kd.int .u8) 5 wr w.heap.size (fun _ => True) (.slice A d.length c) (ints d) ∧ Below w.heap.size w wr)
                case atStart => exact ⟨r2, f2, Ae, mm0, ce, d0, rfl, rfl, rfl, HMM0.out, rfl, HD.out.2.2, by have := HL2.out.2.2; omega, HEE.out.2.2.1, HEE.out.2.2.2, HEE.out.1, HEE.out.2.1⟩
                case round =>
                  obtain ⟨r, f, A, mm, c, d, rfl, rfl, rfl, hmm, hgk, hch, hrl, hdl, hpar, hR, hB⟩ := hrel
                  have HR := Lib.hid (And.intro hR (And.intro hB (And.intro hch (And.intro hdl hpar))))
                  have HGK := Lib.hid hgk
                  have HMM := Lib.hid hmm
                  clear hR hB hch hdl hpar hgk hmm
                  cases f with
                  | false =>
                    have hb1 := (HR.out.2.1.block b (blk_lt HB.out)).trans HB.out
                    have kb : wr.cell? ⟨b, 0, none⟩ = some x0 := by rw [Lib.cell_of_heap hb1]; rfl
                    have fb : wr.frozen? ⟨b, 0, none⟩ = false := Lib.frozen_of_heap hb1 0
                    have HP : Hid (P (.returned .nilIface) (wr.setCell ⟨b, 0, none⟩ (.slice A mm c))) := Lib.hid (by
                      have := HS.out wr d A c (by rw [HR.out.2.2.2.2]; rfl) HR.out.2.1 HR.out.1
                      rw [HMM.out]; exact this)
                    clear hb1
                    go_wp2
                    exact HP.out
                  | true =>
                    have hpar := HR.out.2.2.2.2
                    rw [if_pos rfl, pieces_cut] at hpar
                    have hc1 := cut_sub r
                    have hc2 := cut_no46 r
                    have hc3 := cut_len r
                    have hc4 := cut_any r (by omega) wr
                    have hc5 := cut_no r
                    obtain ⟨p, hp⟩ : ∃ p, p = (cutL r).1 := ⟨_, rfl⟩
                    obtain ⟨r', hr'⟩ : ∃ r', r' = (cutL r).2.1 := ⟨_, rfl⟩
                    obtain ⟨f', hf'⟩ : ∃ f', f' = (cutL r).2.2 := ⟨_, rfl⟩
                    unfold more at hpar
                    rw [← hp, ← hr', ← hf'] at hc4 hc3 hpar
                    rw [← hp, ← hr'] at hc1
                    rw [← hp] at hc2
                    rw [← hr', ← hf'] at hc5
                    have hdp : ∀ x ∈ p, isDig x := fun x hx => okChar_dig (HR.out.2.2.1 x (hc1.1 x hx)) (hc2 x hx)
                    have hcr : ∀ x ∈ r', okChar x = true := fun x hx => HR.out.2.2.1 x (hc1.2 x hx)
                    have hpl : p.length ≤ 200 := by have := hc3.1; omega
                    have hrl' : r'.length ≤ 200 := by have := hc3.1; omega
                    have hsum : p ≠ [] → d.length + (p.length + 1) + 2 * r'.length ≤ 1000 := fun hne => by
                      have h1 := HR.out.2.2.2.1
                      have h2 := List.length_pos_iff.2 hne
                      by_cases hf : f' = true
                      · have := hc3.2 hf; have := hc3.1
                        have hx := cut_parts r
                        rw [← hp, ← hr', ← hf', if_pos hf] at hx
                        have hx := congrArg List.length hx
                        simp at hx; omega
                      · have h3 := hc5 hf
                        rw [h3]; simp
                        have := hc3.1; omega
                    have hmeas : (if f' = true then r'.length + 1 else 0) < r.length + 1 := by
                      by_cases hf : f' = true
                      · rw [if_pos hf]; have := (hc3.2 hf).1; omega
                      · rw [if_neg hf]; omega
                    have HC := Lib.hid (And.intro hdp (And.intro hcr (And.intro hpl (And.intro hsum (And.intro hmeas (And.intro hrl' hpar))))))
                    have HC4 := Lib.hid hc4
                    have HMEAS := Lib.hid hmeas
                    clear hpar hc1 hc2 hc3 hc4 hc5 hp hr' hf' hdp hcr hpl hrl' hsum hmeas
                    go_wp2_with fail
                    refine HC4.out.mono ?_
                    rintro e Wf ⟨rfl, hD⟩
                    have HF := Lib.hid (And.intro (Kd.R_below HR.out.1 hD.below) (And.intro (HR.out.2.1.trans (hD.below.mono HR.out.2.1.size)) hD.below.size))
                    clear hD
                    go_wp2_with fail
                    refine (newInt_any 0 (by omega) Wf).mono ?_
                    rintro e Wg ⟨rfl, ⟨vg, hgg, _⟩, hBg⟩
                    have HGG := Lib.hid (And.intro hgg (And.intro (Kd.R_below HF.out.1 hBg) (And.intro (HF.out.2.1.trans (hBg.mono HF.out.2.1.size)) hBg)))
                    have hsfg : Wf.heap.size < Wg.heap.size := blk_lt hgg
                    have HSF := Lib.hid hsfg
                    clear hgg hBg hsfg
                    go_wp2_with fail
                    by_cases hp0 : p = []
                    · subst hp0
                      have HP : Hid (parse l = none) := Lib.hid (by rw [HC.out.2.2.2.2.2.2]; simp [finP])
                      refine (setString_none Wf.heap.size Wg).mono ?_
                      rintro e Wh ⟨rfl, rfl⟩
                      go_wp2_with fail
                      exact HN.out _ HP.out HGG.out.2.2.1
                    · refine (setString_some Wf.heap.size p HC.out.1 HC.out.2.2.1 hp0 _ _ Wg HGG.out.1).mono ?_
                      rintro e Wh ⟨rfl, hPh⟩
                      have HP0 := Lib.hid hp0
                      have hBh : Below Wf.heap.size Wf Wh := HGG.out.2.2.2.trans (hPh.2.below HGG.out.2.2.2.size (fun k e => by rw [e]; exact Nat.le_refl _))
                      have HHH := Lib.hid (And.intro (Kd.R_below HF.out.1 hBh) (And.intro hPh.1 (HF.out.2.1.trans (hBh.mono HF.out.2.1.size))))
                      clear hBh hPh hp0
                      go_wp2_with fail
                      have hmm := HMM.out
                      subst hmm
                      refine (append128_any w.heap.size Wf.heap.size (decVal p) (decVal_lim HC.out.1 HC.out.2.2.1) _ A c d (by have := HR.out.2.2.2.1; omega) Wh HHH.out.2.2.size HHH.out.2.1 HHH.out.1 (fun k hk => by
                        have := Kd.R_lt HF.out.1 k hk
                        have := HSF.out
                        exact ⟨fun h => by omega, by omega⟩)).mono ?_
                      rintro e Wi ⟨v1, rfl, ⟨Ai, ci, rfl⟩, hRi, _, hCi⟩
                      have hBi : Below w.heap.size w Wi := HHH.out.2.2.trans (hCi.below HHH.out.2.2.size (fun k e => by
                        obtain ⟨_, ho⟩ := Kd.R_own HHH.out.1
                        exact own_base ho k e.symm))
                      obtain ⟨d1, hd1⟩ : ∃ d1, d1 = d ++ enc (decVal p) := ⟨_, rfl⟩
                      rw [← hd1] at hRi ⊢
                      have hlen1 : d1.length + 2 * r'.length ≤ 1000 := by
                        have := HC.out.2.2.2.1 HP0.out
                        have := enc_dec_len HC.out.1
                        rw [hd1, List.length_append]; omega
                      have hpar1 : parse l = finP d1 (if f' = true then pieces r' else []) := by rw [HC.out.2.2.2.2.2.2, finP, if_neg HP0.out, hd1]
                      have HJ := Lib.hid (And.intro hRi (And.intro hBi (And.intro hlen1 hpar1)))
                      obtain ⟨mm1, hmm1⟩ : ∃ mm1, mm1 = d1.length := ⟨_, rfl⟩
                      have HMM1 := Lib.hid hmm1
                      rw [← hmm1]
                      clear hRi hBi hCi hlen1 hpar1 hmm1 hd1
                      go_wp2_with fail
                      go_roundg (if f' = true then r'.length + 1 else 0)
                      case measure => (have := HMEAS.out; have h2 := HGK.out; simp only [if_true] at h2; omega)
                      case rel => exact ⟨r', f', Ai, mm1, ci, d1, rfl, rfl, rfl, HMM1.out, rfl, HC.out.2.1, HC.out.2.2.2.2.2.1, HJ.out.2.2.1, HJ.out.2.2.2, HJ.out.1, HJ.out.2.1⟩
end Go.Proofs.YtiopgkdldkkonaaDoor
namespace Go.Proofs.YtiopgkdldkkonaaDoor
open Go.RowKit Go.Proofs.YtiopgkdldkkonaaDoorW.PrintWords Go.Proofs.YtiopgkdldkkonaaDoor.Num Go.Proofs.YtiopgkdldkkonaaDoor.Pn
set_option linter.unusedVariables false
set_option linter.unusedSimpArgs false

/-- What ParseOID answers. -/
def PoPost (w : World) (l : List UInt8) (e : Ending) (w' : World) : Prop :=
  Below w.heap.size w w' ∧ match parse l with
  | some d => ∃ A c, e = .returned (.tuple #[.agg #[.slice A d.length c], .nilIface]) ∧ Kd.R (Kd.int .u8) 5 w' w.heap.size (fun _ => True) (.slice A d.length c) (ints d)
  | none => e = .returned (.tuple #[.agg #[.slice none 0 0], badOID])

set_option maxHeartbeats 4000000 in
set_option maxRecDepth 100000 in
theorem parseOID_any (l : List UInt8) (hl : l.length ≤ 200) (w : World) :
    Calls Tryd.prog 20 #[.string (str l)] w fun e w' => PoPost w l e w' := by
  have hu39 := Tryd.underlying39
  obtain ⟨W1, hW1⟩ : ∃ W1, W1 = w.alloc (.cells #[.slice none 0 0] 39) := ⟨_, rfl⟩
  obtain ⟨W2, hW2⟩ : ∃ W2, W2 = W1.alloc (.cells #[.slice none 0 0] 39) := ⟨_, rfl⟩
  have s1 : W1.heap.size = w.heap.size + 1 := by rw [hW1]; simp
  have n1 : W1.heap[w.heap.size]? = some (.cells #[.slice none 0 0] 39 (0, 0)) := by rw [hW1]; exact heap_alloc_new w _
  have n2 : W2.heap[w.heap.size + 1]? = some (.cells #[.slice none 0 0] 39 (0, 0)) := by rw [hW2, ← s1]; exact heap_alloc_new W1 _
  have b01 : Below w.heap.size w W1 := by rw [hW1]; exact (Below.refl _ w).alloc (Nat.le_refl _) _
  have b12 : Below W1.heap.size W1 W2 := by rw [hW2]; exact (Below.refl _ W1).alloc (Nat.le_refl _) _
  have b02 : Below w.heap.size w W2 := below_then b01 (by omega) b12
  have m1 := (b12.block _ (blk_lt n1)).trans n1
  have HM := Lib.hid (And.intro m1 (And.intro n2 b02))
  have HS := Lib.hid s1
  clear n1 n2 b01 b12 b02 m1
  go_enter Tryd.func20, Tryd.ntmps20
  go_wp2_with fail
  rw [← hW1, ← hW2, ← s1]
  rw [← s1] at HM
  clear hW1 hW2 s1
  refine (unmarshalText_any W1.heap.size (.slice none 0 0) l hl W2 HM.out.2.1).mono ?_
  rintro e w1 hU
  unfold PaPost at hU
  have hlt : w.heap.size < W1.heap.size := by have := HS.out; omega
  cases hp : parse l with
  | none =>
    rw [hp] at hU
    obtain ⟨rfl, hB⟩ := hU
    have hr0 := (hB.block _ (blk_lt HM.out.1)).trans HM.out.1
    have hr1 := (hB.block _ (blk_lt HM.out.2.1)).trans HM.out.2.1
    have c0 : w1.cell? ⟨w.heap.size, 0, none⟩ = some (.slice none 0 0) := by rw [Lib.cell_of_heap hr0]; rfl
    have c1 : w1.cell? ⟨W1.heap.size, 0, none⟩ = some (.slice none 0 0) := by rw [Lib.cell_of_heap hr1]; rfl
    have f0 : w1.frozen? ⟨w.heap.size, 0, none⟩ = false := Lib.frozen_of_heap hr0 0
    have hB' : Below w.heap.size w (w1.setCell ⟨w.heap.size, 0, none⟩ (.slice none 0 0)) := (HM.out.2.2.trans (hB.mono HM.out.2.2.size)).setCell (p := ⟨w.heap.size, 0, none⟩) (Nat.le_refl _) _
    have c2 : (w1.setCell ⟨w.heap.size, 0, none⟩ (.slice none 0 0)).cell? ⟨w.heap.size, 0, none⟩ = some (.slice none 0 0) := World.cell?_setCell_same _ _ _ c0
    have HP : Hid (PoPost w l (.returned (.tuple #[.agg #[.slice none 0 0], badOID])) (w1.setCell ⟨w.heap.size, 0, none⟩ (.slice none 0 0))) := Lib.hid ⟨hB', by rw [hp]⟩
    have HP0 := Lib.hid hp
    clear hB hr0 hr1 hB' hp
    unfold badOID at *
    go_wp2
    refine bodyPost_ret (v := .tuple #[.agg #[.slice none 0 0], .iface 56 (.string ⟨#[105, 110, 118, 97, 108, 105, 100, 32, 111, 105, 100]⟩)]) (by simp [results, Tryd.results20, go_sem, c2]) rfl ?_
    exact HP.out
  | some d =>
    rw [hp] at hU
    obtain ⟨rfl, A, c, hr1, hR, hCh⟩ := hU
    have hr0 := hCh.blk HM.out.1 (fun e => by omega)
    have c0 : w1.cell? ⟨w.heap.size, 0, none⟩ = some (.slice none 0 0) := by rw [Lib.cell_of_heap hr0]; rfl
    have c1 : w1.cell? ⟨W1.heap.size, 0, none⟩ = some (.slice A d.length c) := by rw [Lib.cell_of_heap hr1]; rfl
    have f0 : w1.frozen? ⟨w.heap.size, 0, none⟩ = false := Lib.frozen_of_heap hr0 0
    have hB' : Below w.heap.size w (w1.setCell ⟨w.heap.size, 0, none⟩ (.slice A d.length c)) := (HM.out.2.2.trans (hCh.below HM.out.2.2.size (fun k e => by omega))).setCell (p := ⟨w.heap.size, 0, none⟩) (Nat.le_refl _) _
    have c2 : (w1.setCell ⟨w.heap.size, 0, none⟩ (.slice A d.length c)).cell? ⟨w.heap.size, 0, none⟩ = some (.slice A d.length c) := World.cell?_setCell_same _ _ _ c0
    have HP : Hid (PoPost w l (.returned (.tuple #[.agg #[.slice A d.length c], .nilIface])) (w1.setCell ⟨w.heap.size, 0, none⟩ (.slice A d.length c))) := Lib.hid ⟨hB', by
      rw [hp]
      exact ⟨A, c, rfl, Kd.R_set (Kd.R_lower hR HM.out.2.2.size) hr0 (by intro q hq; simp [Kd.int, Kd.scalar] at hq; subst hq; decide) 0 _⟩⟩
    have HP0 := Lib.hid hp
    clear hr0 hr1 hB' hp hR hCh
    go_wp2
    refine bodyPost_ret (v := .tuple #[.agg #[.slice A d.length c], .nilIface]) (by simp [results, Tryd.results20, go_sem, c2]) rfl ?_
    exact HP.out
end Go.Proofs.YtiopgkdldkkonaaDoor
namespace Go.Proofs.YtiopgkdldkkonaaDoor
open Go.RowKit Go.Proofs.YtiopgkdldkkonaaDoorW.PrintWords Go.Proofs.YtiopgkdldkkonaaDoor.Num Go.Proofs.YtiopgkdldkkonaaDoor.Pn
set_option linter.unusedVariables false
set_option linter.unusedSimpArgs false

theorem info3 : (Tryd.prog.info? 3).map (fun i => (i.zero, i.size, i.bytes)) = some (some (.int .i64 0), 1, 8) := by kernel_rfl
theorem R_int (w : World) (y : Int) : Kd.R (Kd.int .i64) 3 (w.alloc (.cells #[.int .i64 y] 3)) w.heap.size (fun _ => True) (.slice (some ⟨w.heap.size, 0, none⟩) 1 1) [y] :=
  Kd.R_of_own (enc := Value.int .i64) ⟨by simp [encs], .inr ⟨w.heap.size, 1, #[.int .i64 y], rfl, Nat.le_refl _, heap_alloc_new w _, by simp, by unfold maxLen; omega, by simp, by simp [encs]⟩⟩ (fun _ _ => trivial)
theorem C_int (w : World) (y : Int) : (Kd.int .i64).C (w.alloc (.cells #[.int .i64 y] 3)) (some ⟨w.heap.size, 0, none⟩) 1 [y] := by
  obtain ⟨A, c, hv, hc, hC⟩ := Kd.R_reads (R_int w y)
  injection hv with e1 e2 e3
  subst e1
  exact hC
theorem or7i {a c : Nat} (ha : a < 16777216) (hc : c < 128) : Go.bits .or .i64 ((a : Int) * 128) (c : Int) = ((a * 128 + c : Nat) : Int) := by
  rw [bits_join .i64 40 (by decide) (fun n a b => by rw [IntKind.wrap_i64]; omega) 7 _ _ (by omega) (by omega) (by omega) (by omega) (by omega) (by omega)]
  omega
/-- What toASN1OID answers: some numbers or none. -/
def NsPost (w : World) (e : Ending) (w' : World) : Prop := ∃ A m c b, e = .returned (.tuple #[.slice A m c, .bool b]) ∧ Below w.heap.size w w'
theorem ns_mk {w w' : World} {A : Option Addr} {m c : Nat} {b : Bool} (h : Below w.heap.size w w') : NsPost w (.returned (.tuple #[.slice A m c, .bool b])) w' := ⟨A, m, c, b, rfl, h⟩

set_option maxHeartbeats 8000000 in
set_option maxRecDepth 100000 in
theorem toASN1_any (l : List UInt8) (hl : l.length ≤ 1000) (ad : Addr) (c : Nat) (w0 : World) (hcl : ∀ j u, (Lib.byteCells l)[j]? = some u → w0.cell? (ad.add j) = some u) :
    Calls Tryd.prog 38 #[.agg #[.slice (some ad) l.length c]] w0 fun e w' => NsPost w0 e w' := by
  have hu39 := Tryd.underlying39
  obtain ⟨w, hW⟩ : ∃ w, w = w0.alloc (.cells #[.slice (some ad) l.length c] 39) := ⟨_, rfl⟩
  have hB0 : Below w0.heap.size w0 w := by rw [hW]; exact (Below.refl _ _).alloc (Nat.le_refl _) _
  have hc0 : w.heap[w0.heap.size]? = some (.cells #[.slice (some ad) l.length c] 39 (0, 0)) := by rw [hW]; exact heap_alloc_new w0 _
  have HPOST : Hid (∀ (w' : World) (A : Option Addr) (m c : Nat) (b : Bool), Below w.heap.size w w' → NsPost w0 (.returned (.tuple #[.slice A m c, .bool b])) w') := Lib.hid fun w' A m c b h => ns_mk (hB0.trans (h.mono hB0.size))
  generalize hP : NsPost w0 = P at *
  have HCL : Hid (∀ j u, (Lib.byteCells l)[j]? = some u → w.cell? (ad.add j) = some u) := Lib.hid (fun j u hj => (hB0.cell (World.block_lt_of_cell? _ _ (hcl j u hj))).trans (hcl j u hj))
  have HC0 := Lib.hid hc0
  obtain ⟨N, hN⟩ : ∃ N, N = l.length := ⟨_, rfl⟩
  obtain ⟨i0, hi, hz0, hz1, hz2⟩ := info_parts info3
  obtain ⟨w1, hmk, hown, hgr⟩ := run_make_own (P := Tryd.prog) w w.heap.size 22 3 i0 (.int .i64 0) 1 Tryd.underlying22 hi hz0 hz1 .i64 .i64 (N + 1) (by rw [hz2]; omega) (by unfold maxLen; omega) (Nat.le_refl _)
  rw [show ((N + 1 : Nat) : Int) = (N : Int) + 1 from by omega] at hmk
  have hch : Ch w w1 (fun _ => False) := Ch.of_grown hgr (fun k hk => by cases hk)
  have hB1 : Below w.heap.size w w1 := hch.below (Nat.le_refl _) (fun _ h => h.elim)
  have hR1 : Kd.R (Kd.int .i64) 3 w1 w.heap.size (fun _ => True) (.slice (some ⟨w.heap.size, 0, none⟩) ([] : List Int).length (N + 1)) [] := Kd.R_of_own (enc := Value.int .i64) hown (fun _ _ => trivial)
  have c0 : w.cell? ⟨w0.heap.size, 0, none⟩ = some (.slice (some ad) N c) := by rw [Lib.cell_of_heap hc0, hN]; rfl
  have c1 : w1.cell? ⟨w0.heap.size, 0, none⟩ = some (.slice (some ad) N c) := (hB1.cell (World.block_lt_of_cell? _ _ c0)).trans c0
  have H1 := Lib.hid (And.intro hR1 hB1)
  have HN := Lib.hid hN
  rw [← hN] at hl hW ⊢
  rw [hW] at hmk
  rw [show (w0.alloc (.cells #[.slice (some ad) N c] 39)).heap.size = w.heap.size from by rw [hW]] at hmk
  clear hW
  clear hcl hB0 hc0 hi hz0 hz1 hz2 hown hgr hch hB1 hR1 hN hP
  go_enter Tryd.func38, Tryd.ntmps38
  go_wp2_with fail
  clear hmk c0
  go_loopg [4, 5, 16] N (fun gk s4 s5 s16 wr => ∃ (i v mm c4 : Nat) (A4 : Option Addr) (xs : List Int), gk = N - i ∧ i ≤ N ∧ s16 = .int .i64 i ∧ s5 = .int .i64 v ∧ v ≤ 2147483647 ∧ s4 = .slice A4 mm c4 ∧ mm = xs.length ∧ mm ≤ 4 * i ∧ Kd.R (Kd.int .i64) 3 wr w.heap.size (fun _ => True) (.slice A4 mm c4) xs ∧ Below w.heap.size w wr)
  case atStart => exact ⟨0, 0, 0, _, _, [], rfl, Nat.zero_le _, rfl, rfl, by omega, rfl, rfl, by omega, H1.out.1, H1.out.2⟩
  case round =>
    obtain ⟨i, v, mm, c4, A4, xs, rfl, hiN, rfl, rfl, hv, rfl, hmm, hm4, hR, hB⟩ := hrel
    have HR := Lib.hid hR
    have HB := Lib.hid hB
    have HLEN := Lib.hid (And.intro hmm (show mm ≤ 4 * i + 1 from by omega))
    have HM4 := Lib.hid hm4
    clear hR hB hmm hm4
    by_cases hin : i < N
    · have hinl : i < l.length := by rw [← HN.out]; exact hin
      obtain ⟨x, hx⟩ : ∃ x : UInt8, l[i] = x := ⟨_, rfl⟩
      have cx : wr.cell? (ad.add i) = some (.int .u8 x.toNat) := (HB.out.cell (World.block_lt_of_cell? _ _ (HCL.out i _ (by simp [Lib.byteCells, hinl]; rfl)))).trans (HCL.out i _ (by simp [Lib.byteCells, hinl, hx]))
      have hx256 : x.toNat < 256 := by have := x.toNat_lt; omega
      have h127 := and127 x.toNat hx256
      have h128 := and128 x.toNat hx256
      obtain ⟨n, hn⟩ : ∃ n, n = x.toNat := ⟨_, rfl⟩
      rw [← hn] at hx256 h127 h128 cx
      obtain ⟨m, hm⟩ : ∃ m, m = n % 128 := ⟨_, rfl⟩
      rw [← hm] at h127
      have hm128 : m < 128 := by omega
      have hlt : (i : Int) < (N : Int) := by omega
      have hgt : ad.add (i : Int).toNat = ad.add i := rfl
      clear hx hn hinl hm hgt
      by_cases hbig : 16777215 < v
      · have hbig' : (16777215 : Int) < (v : Int) := by omega
        go_wp2
        exact HPOST.out _ _ _ _ _ HB.out
      · have hbig' : ¬ (16777215 : Int) < (v : Int) := by omega
        have hor := or7i (a := v) (c := m) (by omega) hm128
        obtain ⟨t, ht⟩ : ∃ t, t = v * 128 + m := ⟨_, rfl⟩
        rw [← ht] at hor
        have ht2 : t ≤ 2147483647 := by omega
        have hz : ((128 : Int) == 0) = false := by decide
        have hz0 : ((0 : Int) == 0) = true := by decide
        clear ht
        by_cases hend : n < 128
        · rw [if_pos hend] at h128
          by_cases h0 : mm = 0
          · subst h0
            by_cases ht80 : t < 80
            · have ht80' : (t : Int) < 80 := by omega
              have hRAa := Kd.R_alloc (o := .cells #[.int .i64 ((t : Int) / 40)] 3) HR.out
              have HRAa := Lib.hid hRAa
              clear hRAa
              go_wp2_with (at_builtin; refine Kd.R_append_row (Value.int .i64) 0 (h1 := fun _ => rfl) (w0 := w) w.heap.size rfl (.tmp 37) (.tmp 40) 22 3 (.int .i64 0) 8 rfl Tryd.underlying22 info3 rfl (by decide) (.slice A4 0 c4) xs [((t : Int) / 40)] (some ⟨wr.heap.size, 0, none⟩) 1 1 (fun _ => True) rfl rfl (fun _ _ => trivial) HRAa.out (C_int wr ((t : Int) / 40)) (HB.out.alloc HB.out.size _) (Nat.le_trans HB.out.size (by simp)) (by have := HLEN.out; omega) ?_)
              intro va wa ha hBa hga hata
              obtain ⟨Aa, ca, rfl⟩ := Kd.R_slice ha
              have hla : (xs ++ [((t : Int) / 40)]).length = 0 + 1 := by rw [List.length_append, ← HLEN.out.1]; rfl
              rw [hla] at ha ⊢
              obtain ⟨xsa, hxsa⟩ : ∃ q, q = xs ++ [((t : Int) / 40)] := ⟨_, rfl⟩
              rw [← hxsa] at ha hla
              clear hxsa
              have HRa := Lib.hid ha
              have HBa := Lib.hid hBa
              have HLEN := Lib.hid (And.intro hla.symm (show 0 + 1 ≤ 4 * i + 4 from by have := HLEN.out.2; omega))
              clear ha hBa hga hata hla
              have hRAb := Kd.R_alloc (o := .cells #[.int .i64 ((t : Int) % 40)] 3) HRa.out
              have HRAb := Lib.hid hRAb
              clear hRAb
              go_wp2_with (at_builtin; refine Kd.R_append_row (Value.int .i64) 0 (h1 := fun _ => rfl) (w0 := w) w.heap.size rfl (.tmp 42) (.tmp 45) 22 3 (.int .i64 0) 8 rfl Tryd.underlying22 info3 rfl (by decide) (.slice Aa (0 + 1) ca) xsa [((t : Int) % 40)] (some ⟨wa.heap.size, 0, none⟩) 1 1 (fun _ => True) rfl rfl (fun _ _ => trivial) HRAb.out (C_int wa ((t : Int) % 40)) (HBa.out.alloc HBa.out.size _) (Nat.le_trans HBa.out.size (by simp)) (by have := HLEN.out; omega) ?_)
              intro vb wb hb hBb hgb hatb
              obtain ⟨Ab, cb, rfl⟩ := Kd.R_slice hb
              have hlb : (xsa ++ [((t : Int) % 40)]).length = (0 + 1) + 1 := by rw [List.length_append, ← HLEN.out.1]; rfl
              rw [hlb] at hb ⊢
              obtain ⟨xsb, hxsb⟩ : ∃ q, q = xsa ++ [((t : Int) % 40)] := ⟨_, rfl⟩
              rw [← hxsb] at hb hlb
              clear hxsb
              have HRb := Lib.hid hb
              have HBb := Lib.hid hBb
              have HLEN := Lib.hid (And.intro hlb.symm (show (0 + 1) + 1 ≤ 4 * i + 4 from by have := HLEN.out.2; omega))
              clear hb hBb hgb hatb hlb
              go_wp2
              go_roundg (N - (i + 1))
              case measure => omega
              case rel => exact ⟨i + 1, 0, (0 + 1 + 1), cb, Ab, xsb, rfl, by omega, by go_num, by first | rfl | go_num, by omega, rfl, HLEN.out.1, by have := HLEN.out.2; omega, HRb.out, HBb.out⟩
            · have ht80' : ¬ (t : Int) < 80 := by omega
              have hRAa := Kd.R_alloc (o := .cells #[.int .i64 2] 3) HR.out
              have HRAa := Lib.hid hRAa
              clear hRAa
              go_wp2_with (at_builtin; refine Kd.R_append_row (Value.int .i64) 0 (h1 := fun _ => rfl) (w0 := w) w.heap.size rfl (.tmp 47) (.tmp 48) 22 3 (.int .i64 0) 8 rfl Tryd.underlying22 info3 rfl (by decide) (.slice A4 0 c4) xs [2] (some ⟨wr.heap.size, 0, none⟩) 1 1 (fun _ => True) rfl rfl (fun _ _ => trivial) HRAa.out (C_int wr 2) (HB.out.alloc HB.out.size _) (Nat.le_trans HB.out.size (by simp)) (by have := HLEN.out; omega) ?_)
              intro va wa ha hBa hga hata
              obtain ⟨Aa, ca, rfl⟩ := Kd.R_slice ha
              have hla : (xs ++ [2]).length = 0 + 1 := by rw [List.length_append, ← HLEN.out.1]; rfl
              rw [hla] at ha ⊢
              obtain ⟨xsa, hxsa⟩ : ∃ q, q = xs ++ [2] := ⟨_, rfl⟩
              rw [← hxsa] at ha hla
              clear hxsa
              have HRa := Lib.hid ha
              have HBa := Lib.hid hBa
              have HLEN := Lib.hid (And.intro hla.symm (show 0 + 1 ≤ 4 * i + 4 from by have := HLEN.out.2; omega))
              clear ha hBa hga hata hla
              have hRAb := Kd.R_alloc (o := .cells #[.int .i64 ((t : Int) - 80)] 3) HRa.out
              have HRAb := Lib.hid hRAb
              clear hRAb
              go_wp2_with (at_builtin; refine Kd.R_append_row (Value.int .i64) 0 (h1 := fun _ => rfl) (w0 := w) w.heap.size rfl (.tmp 50) (.tmp 53) 22 3 (.int .i64 0) 8 rfl Tryd.underlying22 info3 rfl (by decide) (.slice Aa (0 + 1) ca) xsa [((t : Int) - 80)] (some ⟨wa.heap.size, 0, none⟩) 1 1 (fun _ => True) rfl rfl (fun _ _ => trivial) HRAb.out (C_int wa ((t : Int) - 80)) (HBa.out.alloc HBa.out.size _) (Nat.le_trans HBa.out.size (by simp)) (by have := HLEN.out; omega) ?_)
              intro vb wb hb hBb hgb hatb
              obtain ⟨Ab, cb, rfl⟩ := Kd.R_slice hb
              have hlb : (xsa ++ [((t : Int) - 80)]).length = (0 + 1) + 1 := by rw [List.length_append, ← HLEN.out.1]; rfl
              rw [hlb] at hb ⊢
              obtain ⟨xsb, hxsb⟩ : ∃ q, q = xsa ++ [((t : Int) - 80)] := ⟨_, rfl⟩
              rw [← hxsb] at hb hlb
              clear hxsb
              have HRb := Lib.hid hb
              have HBb := Lib.hid hBb
              have HLEN := Lib.hid (And.intro hlb.symm (show (0 + 1) + 1 ≤ 4 * i + 4 from by have := HLEN.out.2; omega))
              clear hb hBb hgb hatb hlb
              go_wp2
              go_roundg (N - (i + 1))
              case measure => omega
              case rel => exact ⟨i + 1, 0, (0 + 1 + 1), cb, Ab, xsb, rfl, by omega, by go_num, by first | rfl | go_num, by omega, rfl, HLEN.out.1, by have := HLEN.out.2; omega, HRb.out, HBb.out⟩
          · have h0' : ((mm : Int) == 0) = false := by rw [beq_eq_false_iff_ne]; omega
            have hRAa := Kd.R_alloc (o := .cells #[.int .i64 (t : Int)] 3) HR.out
            have HRAa := Lib.hid hRAa
            clear hRAa
            go_wp2_with (at_builtin; refine Kd.R_append_row (Value.int .i64) 0 (h1 := fun _ => rfl) (w0 := w) w.heap.size rfl (.tmp 55) (.tmp 57) 22 3 (.int .i64 0) 8 rfl Tryd.underlying22 info3 rfl (by decide) (.slice A4 mm c4) xs [(t : Int)] (some ⟨wr.heap.size, 0, none⟩) 1 1 (fun _ => True) rfl rfl (fun _ _ => trivial) HRAa.out (C_int wr (t : Int)) (HB.out.alloc HB.out.size _) (Nat.le_trans HB.out.size (by simp)) (by have := HLEN.out; omega) ?_)
            intro va wa ha hBa hga hata
            obtain ⟨Aa, ca, rfl⟩ := Kd.R_slice ha
            have hla : (xs ++ [(t : Int)]).length = mm + 1 := by rw [List.length_append, ← HLEN.out.1]; rfl
            rw [hla] at ha ⊢
            obtain ⟨xsa, hxsa⟩ : ∃ q, q = xs ++ [(t : Int)] := ⟨_, rfl⟩
            rw [← hxsa] at ha hla
            clear hxsa
            have HRa := Lib.hid ha
            have HBa := Lib.hid hBa
            have HLEN := Lib.hid (And.intro hla.symm (show mm + 1 ≤ 4 * i + 4 from by have := HLEN.out.2; omega))
            clear ha hBa hga hata hla
            go_wp2
            go_roundg (N - (i + 1))
            case measure => omega
            case rel => exact ⟨i + 1, 0, (mm + 1), ca, Aa, xsa, rfl, by omega, by go_num, by first | rfl | go_num, by omega, rfl, HLEN.out.1, by have := HLEN.out.2; omega, HRa.out, HBa.out⟩
        · rw [if_neg hend] at h128
          go_wp2_with fail
          go_roundg (N - (i + 1))
          case measure => omega
          case rel => exact ⟨i + 1, t, mm, c4, A4, xs, rfl, by omega, by go_num, rfl, ht2, rfl, HLEN.out.1, by have := HM4.out; omega, HR.out, HB.out⟩
    · obtain rfl : i = N := by omega
      go_wp2
      exact HPOST.out _ _ _ _ _ HB.out

set_option maxHeartbeats 1000000 in
set_option maxRecDepth 100000 in
theorem zzNumbers_any (l : List UInt8) (hl : l.length ≤ 1000) (ad : Addr) (c : Nat) (w0 : World) (hcl : ∀ j u, (Lib.byteCells l)[j]? = some u → w0.cell? (ad.add j) = some u) :
    Calls Tryd.prog 21 #[.agg #[.slice (some ad) l.length c]] w0 fun e w' => NsPost w0 e w' := by
  have hu39 := Tryd.underlying39
  obtain ⟨w, hW⟩ : ∃ w, w = w0.alloc (.cells #[.slice (some ad) l.length c] 39) := ⟨_, rfl⟩
  have hB0 : Below w0.heap.size w0 w := by rw [hW]; exact (Below.refl _ _).alloc (Nat.le_refl _) _
  have HPOST : Hid (∀ (w' : World) (A : Option Addr) (m c : Nat) (b : Bool), Below w.heap.size w w' → NsPost w0 (.returned (.tuple #[.slice A m c, .bool b])) w') := Lib.hid fun w' A m c b h => ns_mk (hB0.trans (h.mono hB0.size))
  generalize hP : NsPost w0 = P at *
  have HCL : Hid (∀ j u, (Lib.byteCells l)[j]? = some u → w.cell? (ad.add j) = some u) := Lib.hid (fun j u hj => (hB0.cell (World.block_lt_of_cell? _ _ (hcl j u hj))).trans (hcl j u hj))
  clear hcl hB0 hP
  go_enter Tryd.func21, Tryd.ntmps21
  go_wp2_with fail
  rw [← hW]
  clear hW
  refine (toASN1_any l hl ad c w HCL.out).mono ?_
  rintro e w1 ⟨A, m, c1, b, rfl, hB⟩
  have HB := Lib.hid hB
  clear hB
  go_wp2
  exact HPOST.out _ _ _ _ _ HB.out
end Go.Proofs.YtiopgkdldkkonaaDoor

/-
  THE STATE OF OID's String BETWEEN TWO STATEMENTS, and what each call that it makes comes to over it. (W: the world ahead of the builder, whose block is W.heap.size.)
  What the whole numbers' calls come to over the state of OID's String.
  WALK: OID's String.
-/
import Derived.Test.YtiopgkdldkkonaaDoorZT
import Derived.Deep.LoopGhost
import Derived.Deep.Cut
import Derived.Deep.CutRange
import Derived.Deep.DeepCutAuto
namespace Go.Proofs.YtiopgkdldkkonaaDoor
open Go.RowKit Go.Proofs.YtiopgkdldkkonaaDoorW.PrintWords Go.Proofs.YtiopgkdldkkonaaDoor.Num
set_option linter.unusedVariables false
set_option linter.unusedSimpArgs false

theorem tabIs_below {P : Program} {w w1 : World} {name : String} {k : IntKind} {zs : List Int} (h : Lib.TabIs P w name k zs) (hb : Below w.heap.size w w1) : Lib.TabIs P w1 name k zs := by
  unfold Lib.TabIs World.var? at *
  cases hg : P.globalNamed name with
  | none => simp [hg] at h
  | some g =>
    simp only [hg, Option.bind_some] at h ⊢
    have hlt : g < w.heap.size := by
      refine Nat.lt_of_not_le fun hle => ?_
      rw [Array.getElem?_eq_none hle] at h
      simp at h
    rw [hb.block g hlt]
    exact h

def sbp (W : World) : Value := .pointer (some ⟨W.heap.size, 0, none⟩)
structure Sn (W w : World) (r cap : Nat) (v : Value) (out : List UInt8) : Prop where
  be : Below W.heap.size W w
  bd : Bd w W.heap.size W.heap.size v out
  ob : w.ownsRow W.heap.size 5 1 (.slice (some ⟨r, 0, none⟩) 0 cap) 0 []
  cap : 20 ≤ cap
  ne : v.ownBlock ≠ some r

section
variable {W w w1 : World} {r cap : Nat} {v : Value} {out : List UInt8}
theorem own_blk {w : World} {base n r cap : Nat} {xs : List Value} (h : w.ownsRow base 5 1 (.slice (some ⟨r, 0, none⟩) n cap) n xs) : base ≤ r ∧ r < w.heap.size ∧ ∃ cs, w.heap[r]? = some (.cells cs 5 (0, 0)) :=
  ⟨own_base h r (by simp [Value.ownBlock]), own_lt h r (by simp [Value.ownBlock]), own_typed h r (by simp [Value.ownBlock])⟩
theorem own_zero {w : World} {base n r cap : Nat} {xs : List Value} (h : w.ownsRow base 5 1 (.slice (some ⟨r, 0, none⟩) n cap) n xs) : w.ownsRow base 5 1 (.slice (some ⟨r, 0, none⟩) 0 cap) 0 [] := by
  rcases h.2 with ⟨hv, _⟩ | ⟨g, cap', cur, hv, hb, hr, h1, hcm, hcs, htk⟩
  · cases hv
  · injection hv with e1 e2 e3
    injection e1 with e1
    injection e1 with e1 _ _
    subst e1; subst e3
    exact ⟨rfl, .inr ⟨r, cap, cur, rfl, hb, hr, Nat.zero_le _, hcm, hcs, by simp⟩⟩
theorem Sn.blk (h : Sn W w r cap v out) : ∃ p, w.heap[W.heap.size]? = some (.cells #[p, v] 59 (0, 0)) := by
  obtain ⟨⟨p, _, hp⟩, _⟩ := h.bd
  exact ⟨p, hp⟩
theorem Sn.sb_lt (h : Sn W w r cap v out) : W.heap.size < w.heap.size := by
  obtain ⟨p, hp⟩ := h.blk
  exact blk_lt hp
theorem Sn.sb_ne (h : Sn W w r cap v out) : r ≠ W.heap.size := by
  obtain ⟨p, hp⟩ := h.blk
  obtain ⟨_, _, cs, hc⟩ := own_blk h.ob
  exact blk_ne hc hp (by decide)
theorem Sn.v_ne (h : Sn W w r cap v out) : v.ownBlock ≠ some W.heap.size := by
  obtain ⟨p, hp⟩ := h.blk
  exact ne_own h.bd.2 hp (by decide)
theorem Sn.v_lt (h : Sn W w r cap v out) {k : Nat} (hk : v.ownBlock = some k) : W.heap.size ≤ k ∧ k < w.heap.size := ⟨own_base h.bd.2 k hk, own_lt h.bd.2 k hk⟩
theorem Sn.r_lt (h : Sn W w r cap v out) : W.heap.size ≤ r ∧ r < w.heap.size := by
  obtain ⟨a, b, _⟩ := own_blk h.ob
  exact ⟨a, b⟩

/-- What no component is in is written. -/
theorem Sn.step {T : Nat → Prop} (h : Sn W w r cap v out) (hc : Ch w w1 T) (hT : ∀ k, T k → W.heap.size ≤ k ∧ k ≠ W.heap.size ∧ k ≠ r ∧ v.ownBlock ≠ some k) : Sn W w1 r cap v out :=
  ⟨h.be.trans (hc.below (Nat.le_of_lt h.sb_lt) (fun k hk => (hT k hk).1)), h.bd.ch hc (fun hk => (hT _ hk).2.1 rfl) (fun k hv hk => (hT k hk).2.2.2 hv), hc.own h.ob (fun k hk hk2 => by
    have : r = k := by simpa [Value.ownBlock] using hk
    exact (hT k hk2).2.2.1 this.symm), h.cap, h.ne⟩
/-- The builder is written. -/
theorem Sn.step_bd {l : List UInt8} (h : Sn W w r cap v out) (hp : BdPost w W.heap.size W.heap.size v l w1) : ∃ v1, Sn W w1 r cap v1 l ∧ Nx w v v1 ∧ Ch w w1 (fun k => k = W.heap.size ∨ some k = v.ownBlock) := by
  obtain ⟨v1, h1, h2, h3, h4⟩ := hp
  refine ⟨v1, ⟨h.be.trans (h4.below (Nat.le_of_lt h.sb_lt) (fun k hk => ?_)), h1, h4.own h.ob (fun k hk hk2 => ?_), h.cap, ?_⟩, h3, h4⟩
  · rcases hk with rfl | hk
    · exact Nat.le_refl _
    · exact (h.v_lt hk.symm).1
  · have : r = k := by simpa [Value.ownBlock] using hk
    subst this
    rcases hk2 with hk2 | hk2
    · exact h.sb_ne hk2
    · exact h.ne hk2.symm
  · rcases h3 with h3 | ⟨q, hq, hle⟩
    · rw [h3]; exact h.ne
    · rw [hq]; have := h.r_lt.2; intro e; injection e with e; omega
/-- numBuf's row is written, or there is a new one. -/
theorem Sn.step_num {r2 cap2 n : Nat} {xs : List Value} (h : Sn W w r cap v out) (hc : Ch w w1 (fun k => k = r)) (ho : w1.ownsRow W.heap.size 5 1 (.slice (some ⟨r2, 0, none⟩) n cap2) n xs) (hr : r2 = r ∨ w.heap.size ≤ r2) (hcap : 20 ≤ cap2) : Sn W w1 r2 cap2 v out := by
  refine ⟨h.be.trans (hc.below (Nat.le_of_lt h.sb_lt) (fun k hk => by subst hk; exact h.r_lt.1)), h.bd.ch hc (fun e => h.sb_ne e.symm) (fun k hv hk => by subst hk; exact h.ne hv), own_zero ho, hcap, fun e => ?_⟩
  rcases hr with rfl | hr
  · exact h.ne e
  · have := (h.v_lt e).2; omega

theorem sn_byte (h : Sn W w r cap v out) (c : UInt8) (hl : out.length + 1 ≤ 140737488355328) :
    Calls Tryd.prog 25 #[.pointer (some ⟨W.heap.size, 0, none⟩), .int .u8 c.toNat] w fun e w' => e = .returned .nilIface ∧ ∃ v1, Sn W w' r cap v1 (out ++ [c]) ∧ Nx w v v1 ∧ Ch w w' (fun k => k = W.heap.size ∨ some k = v.ownBlock) :=
  (writeByte_any W.heap.size W.heap.size v out c w h.bd (Nat.le_of_lt h.sb_lt) hl).mono fun e w' ⟨he, hp⟩ => ⟨he, h.step_bd hp⟩
theorem sn_str {rr cc : Nat} (h : Sn W w r cap (.slice (some ⟨rr, 0, none⟩) out.length cc) out) (s : List UInt8) (hl : out.length + s.length ≤ cc) :
    Calls Tryd.prog 30 #[.pointer (some ⟨W.heap.size, 0, none⟩), .string ⟨s.toArray⟩] w fun e w' => e = .returned (.tuple #[.int .i64 s.length, .nilIface]) ∧ ∃ v1, Sn W w' r cap v1 (out ++ s) ∧ Nx w (.slice (some ⟨rr, 0, none⟩) out.length cc) v1 ∧ Ch w w' (fun k => k = W.heap.size ∨ some k = (Value.slice (some ⟨rr, 0, none⟩) out.length cc).ownBlock) :=
  (writeString_room W.heap.size W.heap.size rr cc out s w h.bd (Nat.le_of_lt h.sb_lt) hl).mono fun e w' ⟨he, hp⟩ => ⟨he, h.step_bd hp⟩
theorem sn_write {c2 : Nat} (h : Sn W w r cap v out) (s : List UInt8) (ho : w.ownsRow W.heap.size 5 1 (.slice (some ⟨r, 0, none⟩) s.length c2) s.length (Lib.byteCells s)) (hl : out.length + s.length ≤ 140737488355328) :
    Calls Tryd.prog 33 #[.pointer (some ⟨W.heap.size, 0, none⟩), .slice (some ⟨r, 0, none⟩) s.length c2] w fun e w' => e = .returned (.tuple #[.int .i64 s.length, .nilIface]) ∧ ∃ v1, Sn W w' r cap v1 (out ++ s) ∧ Nx w v v1 ∧ Ch w w' (fun k => k = W.heap.size ∨ some k = v.ownBlock) :=
  (write_any W.heap.size W.heap.size v out s ⟨r, 0, none⟩ c2 w h.bd (Nat.le_of_lt h.sb_lt) hl h.sb_ne (ho.cells rfl)).mono fun e w' ⟨he, hp⟩ => ⟨he, h.step_bd hp⟩
theorem sn_uint (h : Sn W w r cap v out) (u : Nat) (hu : u < 18446744073709551616) (htab : Lib.TabIs Tryd.prog W "internal/strconv.uint64pow10" .u64 Lib.pow10Tab) :
    Calls Tryd.prog 34 #[.slice (some ⟨r, 0, none⟩) 0 cap, .int .u64 u, .int .i64 10] w fun e w' => e = .returned (.slice (some ⟨r, 0, none⟩) (Lib.decDigits u).length cap) ∧
      w'.ownsRow W.heap.size 5 1 (.slice (some ⟨r, 0, none⟩) (Lib.decDigits u).length cap) (Lib.decDigits u).length (Lib.byteCells (Lib.decDigits u)) ∧ Sn W w' r cap v out ∧ Ch w w' (fun k => k = r) :=
  (appendUint_any W.heap.size r cap u hu w h.ob h.cap (tabIs_below htab h.be)).mono fun e w' ⟨he, ho, hc⟩ => ⟨he, ho, h.step_num hc ho (.inl rfl) h.cap, hc⟩

/-- The whole number behind bigVal: block g, of the call's own; its digits lie in no other component. -/
def Bg (W w : World) (r : Nat) (v : Value) (g acc : Nat) : Prop := W.heap.size ≤ g ∧ ∃ S, It w g acc S ∧ ∀ k, S k → W.heap.size ≤ k ∧ k ≠ W.heap.size ∧ k ≠ r ∧ v.ownBlock ≠ some k ∧ k < w.heap.size
theorem Bg.blk {g acc : Nat} (h : Bg W w r v g acc) : ∃ x y, w.heap[g]? = some (.cells #[x, y] 66 (0, 0)) := by
  obtain ⟨_, S, ⟨u, hu, _⟩, _⟩ := h
  exact ⟨_, _, hu⟩
/-- A block of the number's type is none of the others. -/
theorem Sn.g_ne {g : Nat} {x y : Value} (h : Sn W w r cap v out) (hg : w.heap[g]? = some (.cells #[x, y] 66 (0, 0))) : g ≠ W.heap.size ∧ g ≠ r ∧ v.ownBlock ≠ some g := by
  obtain ⟨p, hp⟩ := h.blk
  obtain ⟨_, _, cs, hc⟩ := own_blk h.ob
  exact ⟨blk_ne hg hp (by decide), blk_ne hg hc (by decide), ne_own h.bd.2 hg (by decide)⟩
/-- The builder or numBuf's row is written: the number stays. -/
theorem Bg.step {T : Nat → Prop} {g acc r1 : Nat} {v1 : Value} (h : Bg W w r v g acc) (hs : Sn W w r cap v out) (hc : Ch w w1 T) (hT : ∀ k, T k → k = W.heap.size ∨ k = r ∨ v.ownBlock = some k) (hv : Nx w v v1) (hr : r1 = r ∨ w.heap.size ≤ r1) : Bg W w1 r1 v1 g acc := by
  obtain ⟨h0, S, hI, hS⟩ := h
  have hg : g ≠ W.heap.size ∧ g ≠ r ∧ v.ownBlock ≠ some g := by
    obtain ⟨u, hu, _⟩ := id hI
    exact hs.g_ne hu
  refine ⟨h0, S, hI.ch hc (fun hk => ?_) (fun k hk _ hk2 => ?_), fun k hk => ?_⟩
  · rcases hT _ hk with h | h | h
    · exact hg.1 h
    · exact hg.2.1 h
    · exact hg.2.2 h
  · obtain ⟨_, a, b, c, _⟩ := hS k hk
    rcases hT _ hk2 with h | h | h
    · exact a h
    · exact b h
    · exact c h
  · obtain ⟨z, a, b, c, d⟩ := hS k hk
    refine ⟨z, a, ?_, ?_, Nat.lt_of_lt_of_le d hc.size⟩
    · rcases hr with rfl | hr
      · exact b
      · omega
    · rcases hv with hv | ⟨q, hq, hle⟩
      · rw [hv]; exact c
      · rw [hq]; intro e; injection e with e; omega
theorem Nx.refl (w : World) (v : Value) : Nx w v v := .inl rfl
/-- Something is laid into the number. -/
theorem Sn.step_big {g n : Nat} {x y : Value} (h : Sn W w r cap v out) (h0 : W.heap.size ≤ g) (hg : w.heap[g]? = some (.cells #[x, y] 66 (0, 0))) (hp : ItPost w g n w1) : Sn W w1 r cap v out ∧ Bg W w1 r v g n := by
  obtain ⟨hI, hc⟩ := hp
  obtain ⟨g1, g2, g3⟩ := h.g_ne hg
  refine ⟨h.step hc (fun k hk => by subst hk; exact ⟨h0, g1, g2, g3⟩), h0, _, hI.bound, fun k hk => ?_⟩
  have := h.sb_lt; have := h.r_lt.2
  exact ⟨by omega, by omega, by omega, fun e => by have := (h.v_lt e).2; omega, hk.2⟩
/-- Something is made anew. -/
theorem Sn.step_new (h : Sn W w r cap v out) (hb : Below w.heap.size w w1) : Sn W w1 r cap v out :=
  h.step (T := fun _ => False) (Ch.of_below' hb _) (fun k hk => hk.elim)
theorem Bg.step_new {g acc : Nat} (h : Bg W w r v g acc) (hs : Sn W w r cap v out) (hb : Below w.heap.size w w1) : Bg W w1 r v g acc :=
  h.step hs (T := fun _ => False) (Ch.of_below' hb _) (fun k hk => hk.elim) (Nx.refl w v) (.inl rfl)
end

/-! ### what is said, in plain Lean -/
/-- The first arc's two numbers. -/
def head1 (n : Nat) : List UInt8 := if n < 80 then Lib.decDigits (n / 40) ++ [46] ++ Lib.decDigits (n % 40) else [50, 46] ++ Lib.decDigits (n - 80)
/-- The text of bytes: what is gathered so far, whether the first number still stands out, what the number under way has come to. -/
def oidGo : List UInt8 → Bool → Nat → List UInt8 → List UInt8
  | [], _, _, out => out
  | x :: t, first, acc, out =>
    if x.toNat < 128 then oidGo t false 0 (if first then out ++ head1 (acc * 128 + x.toNat) else out ++ [46] ++ Lib.decDigits (acc * 128 + x.toNat))
    else oidGo t first (acc * 128 + x.toNat % 128) out
def oidText (l : List UInt8) : List UInt8 := oidGo l true 0 []
end Go.Proofs.YtiopgkdldkkonaaDoor
namespace Go.Proofs.YtiopgkdldkkonaaDoor
open Go.RowKit Go.Proofs.YtiopgkdldkkonaaDoorW.PrintWords Go.Proofs.YtiopgkdldkkonaaDoor.Num
set_option linter.unusedVariables false
set_option linter.unusedSimpArgs false
section
variable {W w w1 : World} {r cap : Nat} {v : Value} {out : List UInt8} {g acc : Nat}

theorem bg_lsh (h : Sn W w r cap v out) (hg : Bg W w r v g acc) (ha : acc < lim) :
    Calls Tryd.prog 27 #[.pointer (some ⟨g, 0, none⟩), .pointer (some ⟨g, 0, none⟩), .int .u64 7] w fun e w' => e = .returned (.pointer (some ⟨g, 0, none⟩)) ∧ Sn W w' r cap v out ∧ Bg W w' r v g (acc * 128) := by
  obtain ⟨x, y, hb⟩ := hg.blk
  obtain ⟨h0, S, hI, hS⟩ := hg
  exact (lsh7_int g g acc ha S x y w hb hI).mono fun e w' ⟨he, hp⟩ => ⟨he, h.step_big h0 hb hp⟩

theorem bg_new (h : Sn W w r cap v out) (hg : Bg W w r v g acc) (m : Nat) (hm : m < 9223372036854775808) :
    Calls Tryd.prog 29 #[.int .i64 m] w fun e w' => ∃ z T, e = .returned (.pointer (some ⟨z, 0, none⟩)) ∧ Sn W w' r cap v out ∧ Bg W w' r v g acc ∧ It w' z m T :=
  (newInt_any m hm w).mono fun e w' ⟨he, h1, h2⟩ => ⟨_, _, he, h.step_new h2, hg.step_new h h2, h1⟩

theorem bg_or {z m : Nat} {T : Nat → Prop} (h : Sn W w r cap v out) (hg : Bg W w r v g acc) (h0 : acc ≠ 0) (ha : acc < lim) (hM : acc % 128 = 0) (hm : m < 128) (hz : It w z m T) :
    Calls Tryd.prog 28 #[.pointer (some ⟨g, 0, none⟩), .pointer (some ⟨g, 0, none⟩), .pointer (some ⟨z, 0, none⟩)] w fun e w' => e = .returned (.pointer (some ⟨g, 0, none⟩)) ∧ Sn W w' r cap v out ∧ Bg W w' r v g (acc + m) := by
  obtain ⟨x, y, hb⟩ := hg.blk
  obtain ⟨hg0, S, hI, hS⟩ := hg
  exact (or_int g g z acc m h0 ha hM hm S T x y w hb hI hz).mono fun e w' ⟨he, hp⟩ => ⟨he, h.step_big hg0 hb hp⟩

theorem bg_sub {z m : Nat} {T : Nat → Prop} (h : Sn W w r cap v out) (hg : Bg W w r v g acc) (ha : acc < lim) (hm : m < acc) (hz : It w z m T) :
    Calls Tryd.prog 31 #[.pointer (some ⟨g, 0, none⟩), .pointer (some ⟨g, 0, none⟩), .pointer (some ⟨z, 0, none⟩)] w fun e w' => e = .returned (.pointer (some ⟨g, 0, none⟩)) ∧ Sn W w' r cap v out ∧ Bg W w' r v g (acc - m) := by
  obtain ⟨x, y, hb⟩ := hg.blk
  obtain ⟨hg0, S, hI, hS⟩ := hg
  exact (sub_int g g z acc m ha hm S T x y w hb hI hz).mono fun e w' ⟨he, hp⟩ => ⟨he, h.step_big hg0 hb hp⟩

theorem bg_set (h : Sn W w r cap v out) (h0 : W.heap.size ≤ g) {x y : Value} (hb : w.heap[g]? = some (.cells #[x, y] 66 (0, 0))) (u : Nat) (hu : u < 18446744073709551616) :
    Calls Tryd.prog 26 #[.pointer (some ⟨g, 0, none⟩), .int .u64 u] w fun e w' => e = .returned (.pointer (some ⟨g, 0, none⟩)) ∧ Sn W w' r cap v out ∧ Bg W w' r v g u :=
  (setUint64_any g u hu x y w hb).mono fun e w' ⟨he, hp⟩ => ⟨he, h.step_big h0 hb hp⟩

theorem bg_append (h : Sn W w r cap v out) (hg : Bg W w r v g acc) (h0 : acc ≠ 0) (ha : acc < lim) :
    Calls Tryd.prog 32 #[.pointer (some ⟨g, 0, none⟩), .slice (some ⟨r, 0, none⟩) 0 cap, .int .i64 10] w fun e w' => ∃ r2 cap2, e = .returned (.slice (some ⟨r2, 0, none⟩) (Lib.decDigits acc).length cap2) ∧
      w'.ownsRow W.heap.size 5 1 (.slice (some ⟨r2, 0, none⟩) (Lib.decDigits acc).length cap2) (Lib.decDigits acc).length (Lib.byteCells (Lib.decDigits acc)) ∧ Sn W w' r2 cap2 v out ∧ Bg W w' r2 v g acc := by
  obtain ⟨hg0, S, hI, hS⟩ := id hg
  refine (append_int g acc h0 ha S W.heap.size r cap w hI h.ob (Nat.le_of_lt h.sb_lt) h.cap).mono ?_
  rintro e w' ⟨r2, cap2, he, ho, hc, hr, hcap⟩
  exact ⟨r2, cap2, he, ho, h.step_num hc ho hr hcap, hg.step h hc (fun k hk => .inr (.inl hk)) (Nx.refl w v) hr⟩

/-- The builder written: the number stays. -/
theorem Bg.bd {v1 : Value} (hg : Bg W w r v g acc) (h : Sn W w r cap v out) (hn : Nx w v v1) (hc : Ch w w1 (fun k => k = W.heap.size ∨ some k = v.ownBlock)) : Bg W w1 r v1 g acc :=
  hg.step h hc (fun k hk => hk.elim .inl (fun e => .inr (.inr e.symm))) hn (.inl rfl)
/-- A number's block that is there stays there. -/
theorem Sn.blk_bd {x y : Value} (h : Sn W w r cap v out) (hb : w.heap[g]? = some (.cells #[x, y] 66 (0, 0))) (hc : Ch w w1 (fun k => k = W.heap.size ∨ some k = v.ownBlock)) : w1.heap[g]? = some (.cells #[x, y] 66 (0, 0)) :=
  hc.blk hb (fun hk => by
    obtain ⟨a, _, b⟩ := h.g_ne hb
    rcases hk with hk | hk
    · exact a hk
    · exact b hk.symm)
theorem Sn.blk_num {x y : Value} (h : Sn W w r cap v out) (hb : w.heap[g]? = some (.cells #[x, y] 66 (0, 0))) (hc : Ch w w1 (fun k => k = r)) : w1.heap[g]? = some (.cells #[x, y] 66 (0, 0)) :=
  hc.blk hb (fun hk => (h.g_ne hb).2.1 hk)
/-- The number's pointer where no number is under way: nil, or to a number's block. -/
def Idle (W w : World) (s7 : Value) : Prop := s7 = .pointer none ∨ ∃ g x y, s7 = .pointer (some ⟨g, 0, none⟩) ∧ W.heap.size ≤ g ∧ w.heap[g]? = some (.cells #[x, y] 66 (0, 0))
theorem Idle.bd {s7 : Value} (hi : Idle W w s7) (h : Sn W w r cap v out) (hc : Ch w w1 (fun k => k = W.heap.size ∨ some k = v.ownBlock)) : Idle W w1 s7 :=
  hi.imp id fun ⟨g, x, y, h1, h2, h3⟩ => ⟨g, x, y, h1, h2, h.blk_bd h3 hc⟩
theorem Idle.num {s7 : Value} (hi : Idle W w s7) (h : Sn W w r cap v out) (hc : Ch w w1 (fun k => k = r)) : Idle W w1 s7 :=
  hi.imp id fun ⟨g, x, y, h1, h2, h3⟩ => ⟨g, x, y, h1, h2, h.blk_num h3 hc⟩
theorem Bg.idle (hg : Bg W w r v g acc) : Idle W w (.pointer (some ⟨g, 0, none⟩)) := by
  obtain ⟨x, y, hb⟩ := hg.blk
  exact .inr ⟨g, x, y, rfl, hg.1, hb⟩
end
end Go.Proofs.YtiopgkdldkkonaaDoor
namespace Go.Proofs.YtiopgkdldkkonaaDoor
open Go.RowKit Go.Proofs.YtiopgkdldkkonaaDoorW.PrintWords Go.Proofs.YtiopgkdldkkonaaDoor.Num
set_option linter.unusedVariables false
set_option linter.unusedSimpArgs false

/-- What the loop knows of the number that stands behind its three variables. -/
def Big (W wr : World) (r : Nat) (v : Value) (acc : Nat) (s5 s7 s8 : Value) : Prop :=
  (s8 = .bool true ∧ (∃ g, s7 = .pointer (some ⟨g, 0, none⟩) ∧ Bg W wr r v g acc) ∧ 144115188075855872 ≤ acc ∧ ∃ x, s5 = .int .u64 x) ∨
  (s8 = .bool false ∧ s5 = .int .u64 acc ∧ acc < 18446744073709551616 ∧ Idle W wr s7)
/-- The first number still stands out: the builder is empty, and has room. -/
def Fst (v : Value) (out : List UInt8) : Prop := out = [] ∧ ∃ rr cc, v = .slice (some ⟨rr, 0, none⟩) 0 cc ∧ 32 ≤ cc
structure Lp (W wr : World) (l : List UInt8) (i st acc r cap : Nat) (v : Value) (out : List UInt8) : Prop where
  sn : Sn W wr r cap v out
  val : oidGo (l.drop i) (decide (st = 0)) acc out = oidText l
  fst : st = 0 → Fst v out
  acc : acc < 128 ^ i
  len : out.length ≤ 3000 * i
  st : st ≤ i

theorem dec_le {n : Nat} (h : n < lim) : (Lib.decDigits n).length ≤ 2000 := by
  by_cases h0 : n = 0
  · subst h0; unfold Lib.decDigits; simp
  · rw [dec_len h0]; exact rv_lim h
theorem head1_len {n : Nat} (h : n < lim) : (head1 n).length ≤ 2010 := by
  unfold head1
  split
  · have h1 : (Lib.decDigits (n / 40)).length ≤ 2 := by
      rw [Lib.decDigits_length]
      rw [Lib.nDigits_small (show n / 40 < 10 by omega)]; omega
    have h2 : (Lib.decDigits (n % 40)).length ≤ 2 := by
      rw [Lib.decDigits_length]
      by_cases h10 : n % 40 < 10
      · rw [Lib.nDigits_small h10]; omega
      · rw [Lib.nDigits_big h10, Lib.nDigits_small (show n % 40 / 10 < 10 by omega)]; omega
    simp; omega
  · have := dec_le (n := n - 80) (by omega)
    simp; omega
theorem pow_up (c i k : Nat) (hc : 0 < c) (h : i ≤ k) : c ^ i ≤ c ^ k := Nat.pow_le_pow_right hc h
theorem pow_lim {i : Nat} (hi : i ≤ 900) {a : Nat} (ha : a < 128 ^ i) : a < lim := by
  refine Nat.lt_of_lt_of_le ha ?_
  have h1 := pow_up 128 i (9 * 100) (by decide) (by omega)
  have h2 : ∀ c a b : Nat, c ^ (a * b) = (c ^ a) ^ b := fun c a b => Nat.pow_mul c a b
  rw [h2 128 9 100] at h1
  have h3 : lim = (4294967296 ^ 2) ^ 100 := by
    have h4 : lim = 4294967296 ^ (2 * 100) := rfl
    rw [h4, h2]
  rw [h3]
  exact Nat.le_trans h1 (Nat.pow_le_pow_left (by decide) 100)
section
variable {W w w1 : World} {l : List UInt8} {i st acc r cap r1 cap1 : Nat} {v v1 : Value} {out : List UInt8} {x : UInt8}
theorem Lp.next (h : Lp W w l i st acc r cap v out) (hi : i < l.length) (hl : l.length ≤ 900) (hx : l[i] = x) : l.drop i = x :: l.drop (i + 1) ∧ acc * 128 + x.toNat % 128 < 128 ^ (i + 1) ∧ acc < lim ∧ acc * 128 < lim ∧ acc * 128 + x.toNat % 128 < lim ∧ out.length ≤ 3000000 := by
  have h1 : acc * 128 + x.toNat % 128 < 128 ^ (i + 1) := by have := h.acc; rw [Nat.pow_succ]; omega
  have h2 := pow_lim (i := i + 1) (by omega) h1
  refine ⟨by rw [← hx]; exact List.drop_eq_getElem_cons hi, h1, by omega, by omega, h2, ?_⟩
  have := h.len; omega
theorem Lp.more (h : Lp W w l i st acc r cap v out) (hi : i < l.length) (hl : l.length ≤ 900) (hx : l[i] = x) (he : ¬ x.toNat < 128) (hs : Sn W w1 r1 cap1 v out) : Lp W w1 l (i + 1) st (acc * 128 + x.toNat % 128) r1 cap1 v out := by
  obtain ⟨hd, ha, _⟩ := h.next hi hl hx
  refine ⟨hs, ?_, h.fst, ha, ?_, by have := h.st; omega⟩
  · rw [← h.val, hd, oidGo, if_neg he]
  · have := h.len; omega
theorem Lp.first (h : Lp W w l i st acc r cap v out) (hi : i < l.length) (hl : l.length ≤ 900) (hx : l[i] = x) (he : x.toNat < 128) (h0 : st = 0) (hs : Sn W w1 r1 cap1 v1 (out ++ head1 (acc * 128 + x.toNat % 128))) : Lp W w1 l (i + 1) (i + 1) 0 r1 cap1 v1 (out ++ head1 (acc * 128 + x.toNat % 128)) := by
  obtain ⟨hd, ha, _, _, hlim, _⟩ := h.next hi hl hx
  refine ⟨hs, ?_, fun e => by omega, Nat.pow_pos (by omega), ?_, Nat.le_refl _⟩
  · rw [← h.val, hd, oidGo, if_pos he, decide_eq_true h0, if_pos rfl, decide_eq_false (by omega), show x.toNat % 128 = x.toNat from by omega]
  · have := h.len; have := head1_len hlim; simp; omega
theorem Lp.then (h : Lp W w l i st acc r cap v out) (hi : i < l.length) (hl : l.length ≤ 900) (hx : l[i] = x) (he : x.toNat < 128) (h0 : st ≠ 0) (hs : Sn W w1 r1 cap1 v1 (out ++ [46] ++ Lib.decDigits (acc * 128 + x.toNat % 128))) : Lp W w1 l (i + 1) (i + 1) 0 r1 cap1 v1 (out ++ [46] ++ Lib.decDigits (acc * 128 + x.toNat % 128)) := by
  obtain ⟨hd, ha, _, _, hlim, _⟩ := h.next hi hl hx
  refine ⟨hs, ?_, fun e => by omega, Nat.pow_pos (by omega), ?_, Nat.le_refl _⟩
  · rw [← h.val, hd, oidGo, if_pos he, decide_eq_false h0, if_neg (by simp), decide_eq_false (by omega), show x.toNat % 128 = x.toNat from by omega]
  · have := h.len; have := dec_le hlim; simp; omega
end

set_option maxRecDepth 100000 in
theorem and127 : ∀ n : Nat, n < 256 → Go.bits .and .u8 (n : Int) 127 = ((n % 128 : Nat) : Int) := by decide
set_option maxRecDepth 100000 in
theorem and128 : ∀ n : Nat, n < 256 → Go.bits .and .u8 (n : Int) 128 = if n < 128 then 0 else 128 := by decide
theorem or7 {a c : Nat} (ha : a < 144115188075855872) (hc : c < 128) : Go.bits .or .u64 ((a : Int) * 128) (c : Int) = ((a * 128 + c : Nat) : Int) := by
  rw [bits_join .u64 64 (by decide) (fun n a b => by rw [IntKind.wrap_u64]; omega) 7 _ _ (by omega) (by omega) (by omega) (by omega) (by omega) (by omega)]
  omega

theorem sn_dot {W w : World} {r cap : Nat} {v : Value} {out : List UInt8} (h : Sn W w r cap v out) (hl : out.length + 1 ≤ 140737488355328) :
    Calls Tryd.prog 25 #[.pointer (some ⟨W.heap.size, 0, none⟩), .int .u8 46] w fun e w' => e = .returned .nilIface ∧ ∃ v1, Sn W w' r cap v1 (out ++ [46]) ∧ Nx w v v1 ∧ Ch w w' (fun k => k = W.heap.size ∨ some k = v.ownBlock) := sn_byte h 46 hl

set_option maxHeartbeats 40000000 in
set_option maxRecDepth 100000 in
theorem string_any (l : List UInt8) (hl : l.length ≤ 900) (hl0 : 0 < l.length) (ad : Addr) (c : Nat) (w : World) (hcl : ∀ j u, (Lib.byteCells l)[j]? = some u → w.cell? (ad.add j) = some u)
    (htab : Lib.TabIs Tryd.prog w "internal/strconv.uint64pow10" .u64 Lib.pow10Tab) :
    Calls Tryd.prog 15 #[.agg #[.slice (some ad) l.length c]] w fun e w' => e = .returned (.string ⟨(oidText l).toArray⟩) ∧ Below w.heap.size w w' := by
  have hu39 := Tryd.underlying39
  obtain ⟨W, hW⟩ : ∃ W, W = w.alloc (.cells #[.slice (some ad) l.length c] 39) := ⟨_, rfl⟩
  have hWs : W.heap.size = w.heap.size + 1 := by rw [hW]; simp
  have HWB : Hid (∀ w', Below W.heap.size W w' → Below w.heap.size w w') := Lib.hid fun w' hB => by
    rw [hWs] at hB
    rw [hW] at hB
    exact ((Below.refl w.heap.size w).alloc (Nat.le_refl _) _).trans (hB.mono (by omega))
  have hW0 : W.cell? ⟨w.heap.size, 0, none⟩ = some (.slice (some ad) l.length c) := by rw [hW, World.cell?_alloc_new]; rfl
  have HTAB : Hid (Lib.TabIs Tryd.prog W "internal/strconv.uint64pow10" .u64 Lib.pow10Tab) := Lib.hid (by rw [hW]; exact Lib.tabIs_alloc htab _)
  have HCL : Hid (∀ j u, (Lib.byteCells l)[j]? = some u → W.cell? (ad.add j) = some u) := Lib.hid (fun j u hj => by
    rw [hW, World.cell?_alloc_old _ _ _ (Nat.ne_of_lt (World.block_lt_of_cell? _ _ (hcl j u hj)))]; exact hcl j u hj)
  obtain ⟨i0, hi, hz0, hz1, hz2⟩ := info_parts info5
  clear htab hcl
  go_enter Tryd.func15, Tryd.ntmps15
  go_wp2_with fail
  rw [← hW, ← hWs]
  have hb0 : (W.alloc (.cells #[.pointer none, .slice none 0 0] 59)).heap[W.heap.size]? = some (.cells #[.pointer none, .slice none 0 0] 59 (0, 0)) := heap_alloc_new W _
  refine (Tryd.Builder_Grow_fresh_cap W.heap.size W.heap.size 32 _ (Nat.le_refl _) hb0 (by simp) (by omega)).mono ?_
  rintro e wg ⟨rfl, ⟨⟨_, v0, hbv, hov, _⟩, hbB⟩, p0, cap0, hc0, hcap0⟩
  have hbe : Below W.heap.size W wg := ((Below.refl _ W).alloc (Nat.le_refl _) _).trans hbB
  have hsz : W.heap.size < wg.heap.size := blk_lt hbv
  obtain rfl : v0 = .slice p0 0 cap0 := by
    rw [Lib.cell_of_heap hbv] at hc0
    simpa using hc0
  obtain ⟨rr, rfl⟩ : ∃ rr, p0 = some ⟨rr, 0, none⟩ := by
    rcases hov.2 with ⟨hv, _⟩ | ⟨g, cap', cur, hv, _⟩
    · injection hv with _ _ hv; omega
    · injection hv with hv; exact ⟨g, hv⟩
  obtain ⟨w3, hmk, hown, hgr⟩ := run_make_own (P := Tryd.prog) wg W.heap.size 23 5 i0 (.int .u8 0) 1 Tryd.underlying23 hi hz0 hz1 .i64 .i64 21 (by rw [hz2]; omega) (by unfold maxLen; omega) (Nat.le_of_lt hsz)
  have hch : Ch wg w3 (fun _ => False) := Ch.of_grown hgr (fun k hk => by cases hk)
  have hrr := own_lt hov rr (by simp [Value.ownBlock])
  have hbe3 : Below W.heap.size W w3 := hbe.trans (hch.below (Nat.le_of_lt hsz) (fun _ h => h.elim))
  have HS : Hid (Lp W w3 l 0 0 0 wg.heap.size 21 (.slice (some ⟨rr, 0, none⟩) 0 cap0) []) := Lib.hid
    ⟨⟨hbe3, ⟨⟨_, .inr rfl, hch.blk hbv (fun h => h)⟩, hch.own hov (fun _ _ h => h)⟩, hown, by omega, by simp [Value.ownBlock]; omega⟩, rfl, fun _ => ⟨rfl, rr, cap0, rfl, hcap0⟩, by simp, by simp, Nat.le_refl _⟩
  have hW3 := (hbe3.cell (p := ⟨w.heap.size, 0, none⟩) (by rw [hWs]; simp)).trans hW0
  rw [show ((21 : Nat) : Int) = 21 from rfl] at hmk
  have HWS := Lib.hid hWs
  clear hbe hov hbB hbv hc0 hgr hch hrr hown hbe3 hb0 hi hz0 hz1 hz2 hsz hWs hW hW0 hcap0
  generalize hws : w.heap.size = ws at *
  have HWS0 := Lib.hid hws
  clear hws
  go_wp2_with fail
  go_loopg [4, 5, 6, 7, 8, 18] l.length (fun gk s4 s5 s6 s7 s8 s18 wr => ∃ i st acc r cap v out, i ≤ l.length ∧ gk = l.length - i ∧ s18 = .int .i64 (i : Nat) ∧ s4 = .int .i64 (st : Nat) ∧ s6 = .slice (some ⟨r, 0, none⟩) 0 cap ∧ Lp W wr l i st acc r cap v out ∧ Big W wr r v acc s5 s7 s8)
  case atStart => exact ⟨0, 0, 0, _, _, _, _, Nat.zero_le _, rfl, rfl, rfl, rfl, HS.out, .inr ⟨rfl, rfl, by omega, .inl rfl⟩⟩
  case round =>
    obtain ⟨i, st, acc, r, cap, v, out, hi, rfl, rfl, rfl, rfl, hL, hB⟩ := hrel
    by_cases hin : i < l.length
    · obtain ⟨x, hx⟩ : ∃ x : UInt8, l[i] = x := ⟨_, rfl⟩
      have hbe := hL.sn.be
      have cx : wr.cell? (ad.add i) = some (.int .u8 x.toNat) := (hbe.cell (World.block_lt_of_cell? _ _ (HCL.out i _ (by simp [Lib.byteCells, hin]; rfl)))).trans (HCL.out i _ (by simp [Lib.byteCells, hin, hx]))
      have hx256 : x.toNat < 256 := by have := x.toNat_lt; omega
      have h127 := and127 x.toNat hx256
      have h128 := and128 x.toNat hx256
      obtain ⟨n, hn⟩ : ∃ n, n = x.toNat := ⟨_, rfl⟩
      rw [← hn] at hx256 h127 h128 cx
      clear hbe hW3 hmk HS
      by_cases hend : n < 128
      · have hend1 := hend
        rw [if_pos hend] at h128
        obtain ⟨hd, ha, hlim0, hlim1, hlim2, hout⟩ := hL.next hin hl hx
        rw [← hn] at hlim2
        obtain ⟨m, hm⟩ : ∃ m, m = n % 128 := ⟨_, rfl⟩
        rw [← hm] at h127 hlim2
        have hm128 : m < 128 := by omega
        have HM := Lib.hid hm
        have HL := Lib.hid hL
        have HE := Lib.hid hend
        have HOUT := Lib.hid hout
        have HLIM := Lib.hid (And.intro hlim0 (And.intro hlim1 hlim2))
        have HX := Lib.hid (And.intro hx hn)
        have hz : ((128 : Int) == 0) = false := by decide
        clear hd ha hlim0 hlim1 hlim2 hout hm hL hend hx hn
        clear hend1
        have hz0 : ((0 : Int) == 0) = true := by decide
        by_cases h0 : st = 0
        · obtain ⟨hout0, rr, cc, hv, hcc⟩ := HL.out.fst h0
          subst h0; subst hout0; subst hv
          have END : ∀ {w1 r1 cap1 v1}, Sn W w1 r1 cap1 v1 ([] ++ head1 (acc * 128 + m)) → Lp W w1 l (i + 1) (i + 1) 0 r1 cap1 v1 ([] ++ head1 (acc * 128 + m)) := fun hs => by
            have hm := HM.out
            rw [HX.out.2] at hm
            rw [hm] at hs ⊢
            exact HL.out.first hin hl HX.out.1 (by rw [← HX.out.2]; exact HE.out) rfl hs
          rcases hB with ⟨rfl, ⟨g, rfl, hg⟩, hacc, u, rfl⟩ | ⟨rfl, rfl, hacc, h7⟩
          · have HS0 := Lib.hid (And.intro HL.out.sn hg)
            clear hg
            go_wp2_with fail
            refine (bg_lsh HS0.out.1 HS0.out.2 HLIM.out.1).mono ?_
            rintro e w1 ⟨rfl, hs1, hg1⟩
            have HS1 := Lib.hid (And.intro hs1 hg1)
            clear hs1 hg1 HS0
            go_wp2_with fail
            refine (bg_new HS1.out.1 HS1.out.2 m (by omega)).mono ?_
            rintro e w2 ⟨z2, T2, rfl, hs1, hg1, hz1⟩
            have HS2 := Lib.hid (And.intro hs1 (And.intro hg1 hz1))
            clear hs1 hg1 hz1 HS1
            go_wp2_with fail
            refine (bg_or HS2.out.1 HS2.out.2.1 (by omega) HLIM.out.2.1 (by omega) hm128 HS2.out.2.2).mono ?_
            rintro e w3 ⟨rfl, hs1, hg1⟩
            have HS3 := Lib.hid (And.intro hs1 hg1)
            clear hs1 hg1 HS2
            go_wp2_with fail
            refine (sn_str (out := []) HS3.out.1 [50, 46] (by simp; omega)).mono ?_
            rintro e w4 ⟨rfl, v4, hs1, hn1, hc1⟩
            have HS4 := Lib.hid (And.intro hs1 (HS3.out.2.bd HS3.out.1 hn1 hc1))
            clear hs1 hn1 hc1 HS3
            go_wp2_with fail
            refine (bg_new HS4.out.1 HS4.out.2 80 (by omega)).mono ?_
            rintro e w5 ⟨z5, T5, rfl, hs1, hg1, hz1⟩
            have HS5 := Lib.hid (And.intro hs1 (And.intro hg1 hz1))
            clear hs1 hg1 hz1 HS4
            go_wp2_with fail
            refine (bg_sub HS5.out.1 HS5.out.2.1 HLIM.out.2.2 (by omega) HS5.out.2.2).mono ?_
            rintro e w6 ⟨rfl, hs1, hg1⟩
            have HS6 := Lib.hid (And.intro hs1 hg1)
            clear hs1 hg1 HS5
            go_wp2_with fail
            refine (bg_append HS6.out.1 HS6.out.2 (by omega) (by have := HLIM.out.2.2; omega)).mono ?_
            rintro e w7 ⟨r7, cap7, rfl, ho1, hs1, hg1⟩
            have HS7 := Lib.hid (And.intro hs1 hg1)
            have HR7 := Lib.hid ho1
            clear hs1 hg1 ho1 HS6
            go_wp2_with fail
            refine (sn_write HS7.out.1 (Lib.decDigits (acc * 128 + m - 80)) HR7.out (by have := dec_le (n := acc * 128 + m - 80) (by have := HLIM.out.2.2; omega); simp; omega)).mono ?_
            rintro e w8 ⟨rfl, v8, hs1, hn1, hc1⟩
            have HS8 := Lib.hid (And.intro hs1 (HS7.out.2.bd HS7.out.1 hn1 hc1))
            clear hs1 hn1 hc1 HS7
            go_wp2_with fail
            have hh : [] ++ [50, 46] ++ Lib.decDigits (acc * 128 + m - 80) = [] ++ head1 (acc * 128 + m) := by
              unfold head1; rw [if_neg (by omega)]; simp
            have HH := Lib.hid hh
            clear hh
            go_roundg (l.length - (i + 1))
            case measure => omega
            case rel =>
              have hb : Big W w8 r7 v8 0 (.int .u64 0) (.pointer (some ⟨g, 0, none⟩)) (.bool false) := .inr ⟨rfl, rfl, by omega, HS8.out.2.idle⟩
              exact ⟨i + 1, (i + 1), 0, r7, cap7, v8, _, by omega, rfl, by go_num, by go_num, rfl, (END (by rw [← HH.out]; exact HS8.out.1)), hb⟩
          · by_cases hsafe : acc < 144115188075855872
            · have hs1 : ¬ (144115188075855871 < (acc : Int)) := by omega
              have hor := or7 hsafe hm128
              obtain ⟨V, hV⟩ : ∃ V, V = acc * 128 + m := ⟨_, rfl⟩
              rw [← hV] at hor
              have hV64 : V < 18446744073709551616 := by omega
              have HV := Lib.hid hV
              have HS0 := Lib.hid (And.intro HL.out.sn h7)
              clear h7 hV
              by_cases h80 : V < 80
              · have h80' : (V : Int) < 80 := by omega
                have hq : Int.tdiv (V : Int) 40 = ((V / 40 : Nat) : Int) := by rw [show (40 : Int) = ((40 : Nat) : Int) from rfl, ← Int.ofNat_tdiv]
                have hr0 : Int.tmod (V : Int) 40 = ((V % 40 : Nat) : Int) := by rw [show (40 : Int) = ((40 : Nat) : Int) from rfl, ← Int.ofNat_tmod]
                obtain ⟨q, hq1⟩ : ∃ q, q = V / 40 := ⟨_, rfl⟩
                obtain ⟨t, ht1⟩ : ∃ t, t = V % 40 := ⟨_, rfl⟩
                rw [← hq1] at hq
                rw [← ht1] at hr0
                have hq2 : q < 2 := by omega
                have ht2 : t < 40 := by omega
                have HQ := Lib.hid (And.intro hq1 ht1)
                clear hq1 ht1
                go_wp2_with fail
                refine (sn_uint HS0.out.1 q (by omega) HTAB.out).mono ?_
                rintro e w1 ⟨rfl, ho1, hs1, hc1⟩
                have HS1 := Lib.hid (And.intro hs1 (HS0.out.2.num HS0.out.1 hc1))
                have HR1 := Lib.hid ho1
                clear hs1 hc1 ho1 HS0
                go_wp2_with fail
                refine (sn_write HS1.out.1 (Lib.decDigits q) HR1.out (by have := dec_le (n := q) (Nat.lt_trans (show q < 128 ^ 1 by omega) (by unfold lim; decide)); simp; omega)).mono ?_
                rintro e w2 ⟨rfl, v2, hs1, hn1, hc1⟩
                have HS2 := Lib.hid (And.intro hs1 (HS1.out.2.bd HS1.out.1 hc1))
                clear hs1 hn1 hc1 HS1
                go_wp2_with fail
                refine (sn_dot HS2.out.1 (by have := dec_le (n := q) (Nat.lt_trans (show q < 128 ^ 1 by omega) (by unfold lim; decide)); simp; omega)).mono ?_
                rintro e w3 ⟨rfl, v3, hs1, hn1, hc1⟩
                have HS3 := Lib.hid (And.intro hs1 (HS2.out.2.bd HS2.out.1 hc1))
                clear hs1 hn1 hc1 HS2
                go_wp2_with fail
                refine (sn_uint HS3.out.1 t (by omega) HTAB.out).mono ?_
                rintro e w4 ⟨rfl, ho1, hs1, hc1⟩
                have HS4 := Lib.hid (And.intro hs1 (HS3.out.2.num HS3.out.1 hc1))
                have HR4 := Lib.hid ho1
                clear hs1 hc1 ho1 HS3
                go_wp2_with fail
                refine (sn_write HS4.out.1 (Lib.decDigits t) HR4.out (by have := dec_le (n := q) (Nat.lt_trans (show q < 128 ^ 1 by omega) (by unfold lim; decide)); have := dec_le (n := t) (Nat.lt_trans (show t < 128 ^ 1 by omega) (by unfold lim; decide)); simp; omega)).mono ?_
                rintro e w5 ⟨rfl, v5, hs1, hn1, hc1⟩
                have HS5 := Lib.hid (And.intro hs1 (HS4.out.2.bd HS4.out.1 hc1))
                clear hs1 hn1 hc1 HS4
                go_wp2_with fail
                have hh : [] ++ Lib.decDigits q ++ [46] ++ Lib.decDigits t = [] ++ head1 (acc * 128 + m) := by
                  unfold head1; rw [← HV.out, if_pos h80, HQ.out.1, HQ.out.2]; simp
                have HH := Lib.hid hh
                clear hh
                go_roundg (l.length - (i + 1))
                case measure => omega
                case rel =>
                  have hb : Big W w5 r v5 0 (.int .u64 0) _ (.bool false) := .inr ⟨rfl, rfl, by omega, HS5.out.2⟩
                  exact ⟨i + 1, (i + 1), 0, r, cap, v5, _, by omega, rfl, by go_num, by go_num, rfl, (END (by rw [← HH.out]; exact HS5.out.1)), hb⟩
              · have h80' : ¬ ((V : Int) < 80) := by omega
                obtain ⟨q, hq1⟩ : ∃ q, q = V - 80 := ⟨_, rfl⟩
                have hq : (V : Int) - 80 = (q : Int) := by omega
                have hq2 : q < 18446744073709551616 := by omega
                have HQ := Lib.hid hq1
                clear hq1
                go_wp2_with fail
                refine (sn_str (out := []) HS0.out.1 [50, 46] (by simp; omega)).mono ?_
                rintro e w1 ⟨rfl, v1, hs1, hn1, hc1⟩
                have HS1 := Lib.hid (And.intro hs1 (HS0.out.2.bd HS0.out.1 hc1))
                clear hs1 hn1 hc1 HS0
                go_wp2_with fail
                refine (sn_uint HS1.out.1 q (by omega) HTAB.out).mono ?_
                rintro e w2 ⟨rfl, ho1, hs1, hc1⟩
                have HS2 := Lib.hid (And.intro hs1 (HS1.out.2.num HS1.out.1 hc1))
                have HR2 := Lib.hid ho1
                clear hs1 hc1 ho1 HS1
                go_wp2_with fail
                refine (sn_write HS2.out.1 (Lib.decDigits q) HR2.out (by have := dec_le (n := q) (Nat.lt_trans hq2 (by unfold lim; decide)); simp; omega)).mono ?_
                rintro e w3 ⟨rfl, v3, hs1, hn1, hc1⟩
                have HS3 := Lib.hid (And.intro hs1 (HS2.out.2.bd HS2.out.1 hc1))
                clear hs1 hn1 hc1 HS2
                go_wp2_with fail
                have hh : [] ++ [50, 46] ++ Lib.decDigits q = [] ++ head1 (acc * 128 + m) := by
                  unfold head1; rw [← HV.out, if_neg h80, HQ.out]; simp
                have HH := Lib.hid hh
                clear hh
                go_roundg (l.length - (i + 1))
                case measure => omega
                case rel =>
                  have hb : Big W w3 r v3 0 (.int .u64 0) _ (.bool false) := .inr ⟨rfl, rfl, by omega, HS3.out.2⟩
                  exact ⟨i + 1, (i + 1), 0, r, cap, v3, _, by omega, rfl, by go_num, by go_num, rfl, (END (by rw [← HH.out]; exact HS3.out.1)), hb⟩
            · have hs1 : 144115188075855871 < (acc : Int) := by omega
              rcases h7 with rfl | ⟨g, x0, y0, rfl, hg0, hgb⟩
              · have HS0 := Lib.hid (And.intro HL.out.sn True.intro)
                go_wp2_with fail
                refine (bg_set (HS0.out.1.step_new ((Below.refl _ _).alloc (Nat.le_refl _) _)) (Nat.le_of_lt HS0.out.1.sb_lt) (heap_alloc_new _ _) acc hacc).mono ?_
                rintro e w1 ⟨rfl, hs1, hg1⟩
                have HS1 := Lib.hid (And.intro hs1 hg1)
                clear hs1 hg1 HS0
                go_wp2_with fail
                refine (bg_lsh HS1.out.1 HS1.out.2 HLIM.out.1).mono ?_
                rintro e w2 ⟨rfl, hs1, hg1⟩
                have HS2 := Lib.hid (And.intro hs1 hg1)
                clear hs1 hg1 HS1
                go_wp2_with fail
                refine (bg_new HS2.out.1 HS2.out.2 m (by omega)).mono ?_
                rintro e w3 ⟨z3, T3, rfl, hs1, hg1, hz1⟩
                have HS3 := Lib.hid (And.intro hs1 (And.intro hg1 hz1))
                clear hs1 hg1 hz1 HS2
                go_wp2_with fail
                refine (bg_or HS3.out.1 HS3.out.2.1 (by omega) HLIM.out.2.1 (by omega) hm128 HS3.out.2.2).mono ?_
                rintro e w4 ⟨rfl, hs1, hg1⟩
                have HS4 := Lib.hid (And.intro hs1 hg1)
                clear hs1 hg1 HS3
                go_wp2_with fail
                refine (sn_str (out := []) HS4.out.1 [50, 46] (by simp; omega)).mono ?_
                rintro e w5 ⟨rfl, v5, hs1, hn1, hc1⟩
                have HS5 := Lib.hid (And.intro hs1 (HS4.out.2.bd HS4.out.1 hn1 hc1))
                clear hs1 hn1 hc1 HS4
                go_wp2_with fail
                refine (bg_new HS5.out.1 HS5.out.2 80 (by omega)).mono ?_
                rintro e w6 ⟨z6, T6, rfl, hs1, hg1, hz1⟩
                have HS6 := Lib.hid (And.intro hs1 (And.intro hg1 hz1))
                clear hs1 hg1 hz1 HS5
                go_wp2_with fail
                refine (bg_sub HS6.out.1 HS6.out.2.1 HLIM.out.2.2 (by omega) HS6.out.2.2).mono ?_
                rintro e w7 ⟨rfl, hs1, hg1⟩
                have HS7 := Lib.hid (And.intro hs1 hg1)
                clear hs1 hg1 HS6
                go_wp2_with fail
                refine (bg_append HS7.out.1 HS7.out.2 (by omega) (by have := HLIM.out.2.2; omega)).mono ?_
                rintro e w8 ⟨r8, cap8, rfl, ho1, hs1, hg1⟩
                have HS8 := Lib.hid (And.intro hs1 hg1)
                have HR8 := Lib.hid ho1
                clear hs1 hg1 ho1 HS7
                go_wp2_with fail
                refine (sn_write HS8.out.1 (Lib.decDigits (acc * 128 + m - 80)) HR8.out (by have := dec_le (n := acc * 128 + m - 80) (by have := HLIM.out.2.2; omega); simp; omega)).mono ?_
                rintro e w9 ⟨rfl, v9, hs1, hn1, hc1⟩
                have HS9 := Lib.hid (And.intro hs1 (HS8.out.2.bd HS8.out.1 hn1 hc1))
                clear hs1 hn1 hc1 HS8
                go_wp2_with fail
                have hh : [] ++ [50, 46] ++ Lib.decDigits (acc * 128 + m - 80) = [] ++ head1 (acc * 128 + m) := by
                  unfold head1; rw [if_neg (by omega)]; simp
                have HH := Lib.hid hh
                clear hh
                go_roundg (l.length - (i + 1))
                case measure => omega
                case rel =>
                  have hb : Big W w9 r8 v9 0 (.int .u64 0) (.pointer (some ⟨wr.heap.size, 0, none⟩)) (.bool false) := .inr ⟨rfl, rfl, by omega, HS9.out.2.idle⟩
                  exact ⟨i + 1, (i + 1), 0, r8, cap8, v9, _, by omega, rfl, by go_num, by go_num, rfl, (END (by rw [← HH.out]; exact HS9.out.1)), hb⟩
              · have HS0 := Lib.hid (And.intro HL.out.sn (And.intro hg0 hgb))
                clear hg0 hgb
                go_wp2_with fail
                refine (bg_set HS0.out.1 HS0.out.2.1 HS0.out.2.2 acc hacc).mono ?_
                rintro e w1 ⟨rfl, hs1, hg1⟩
                have HS1 := Lib.hid (And.intro hs1 hg1)
                clear hs1 hg1 HS0
                go_wp2_with fail
                refine (bg_lsh HS1.out.1 HS1.out.2 HLIM.out.1).mono ?_
                rintro e w2 ⟨rfl, hs1, hg1⟩
                have HS2 := Lib.hid (And.intro hs1 hg1)
                clear hs1 hg1 HS1
                go_wp2_with fail
                refine (bg_new HS2.out.1 HS2.out.2 m (by omega)).mono ?_
                rintro e w3 ⟨z3, T3, rfl, hs1, hg1, hz1⟩
                have HS3 := Lib.hid (And.intro hs1 (And.intro hg1 hz1))
                clear hs1 hg1 hz1 HS2
                go_wp2_with fail
                refine (bg_or HS3.out.1 HS3.out.2.1 (by omega) HLIM.out.2.1 (by omega) hm128 HS3.out.2.2).mono ?_
                rintro e w4 ⟨rfl, hs1, hg1⟩
                have HS4 := Lib.hid (And.intro hs1 hg1)
                clear hs1 hg1 HS3
                go_wp2_with fail
                refine (sn_str (out := []) HS4.out.1 [50, 46] (by simp; omega)).mono ?_
                rintro e w5 ⟨rfl, v5, hs1, hn1, hc1⟩
                have HS5 := Lib.hid (And.intro hs1 (HS4.out.2.bd HS4.out.1 hn1 hc1))
                clear hs1 hn1 hc1 HS4
                go_wp2_with fail
                refine (bg_new HS5.out.1 HS5.out.2 80 (by omega)).mono ?_
                rintro e w6 ⟨z6, T6, rfl, hs1, hg1, hz1⟩
                have HS6 := Lib.hid (And.intro hs1 (And.intro hg1 hz1))
                clear hs1 hg1 hz1 HS5
                go_wp2_with fail
                refine (bg_sub HS6.out.1 HS6.out.2.1 HLIM.out.2.2 (by omega) HS6.out.2.2).mono ?_
                rintro e w7 ⟨rfl, hs1, hg1⟩
                have HS7 := Lib.hid (And.intro hs1 hg1)
                clear hs1 hg1 HS6
                go_wp2_with fail
                refine (bg_append HS7.out.1 HS7.out.2 (by omega) (by have := HLIM.out.2.2; omega)).mono ?_
                rintro e w8 ⟨r8, cap8, rfl, ho1, hs1, hg1⟩
                have HS8 := Lib.hid (And.intro hs1 hg1)
                have HR8 := Lib.hid ho1
                clear hs1 hg1 ho1 HS7
                go_wp2_with fail
                refine (sn_write HS8.out.1 (Lib.decDigits (acc * 128 + m - 80)) HR8.out (by have := dec_le (n := acc * 128 + m - 80) (by have := HLIM.out.2.2; omega); simp; omega)).mono ?_
                rintro e w9 ⟨rfl, v9, hs1, hn1, hc1⟩
                have HS9 := Lib.hid (And.intro hs1 (HS8.out.2.bd HS8.out.1 hn1 hc1))
                clear hs1 hn1 hc1 HS8
                go_wp2_with fail
                have hh : [] ++ [50, 46] ++ Lib.decDigits (acc * 128 + m - 80) = [] ++ head1 (acc * 128 + m) := by
                  unfold head1; rw [if_neg (by omega)]; simp
                have HH := Lib.hid hh
                clear hh
                go_roundg (l.length - (i + 1))
                case measure => omega
                case rel =>
                  have hb : Big W w9 r8 v9 0 (.int .u64 0) (.pointer (some ⟨g, 0, none⟩)) (.bool false) := .inr ⟨rfl, rfl, by omega, HS9.out.2.idle⟩
                  exact ⟨i + 1, (i + 1), 0, r8, cap8, v9, _, by omega, rfl, by go_num, by go_num, rfl, (END (by rw [← HH.out]; exact HS9.out.1)), hb⟩
        · have hst : ¬ ((st : Int) = 0) := by omega
          have END : ∀ {w1 r1 cap1 v1}, Sn W w1 r1 cap1 v1 (out ++ [46] ++ Lib.decDigits (acc * 128 + m)) → Lp W w1 l (i + 1) (i + 1) 0 r1 cap1 v1 (out ++ [46] ++ Lib.decDigits (acc * 128 + m)) := fun hs => by
            have hm := HM.out
            rw [HX.out.2] at hm
            rw [hm] at hs ⊢
            exact HL.out.then hin hl HX.out.1 (by rw [← HX.out.2]; exact HE.out) h0 hs
          rcases hB with ⟨rfl, ⟨g, rfl, hg⟩, hacc, u, rfl⟩ | ⟨rfl, rfl, hacc, h7⟩
          · have HS0 := Lib.hid (And.intro HL.out.sn hg)
            clear hg
            go_wp2_with fail
            refine (sn_dot HS0.out.1 (by have := HOUT.out; omega)).mono ?_
            rintro e w1 ⟨rfl, v1, hs1, hn1, hc1⟩
            have HS1 := Lib.hid (And.intro hs1 (HS0.out.2.bd HS0.out.1 hn1 hc1))
            clear hs1 hn1 hc1 HS0
            go_wp2_with fail
            refine (bg_lsh HS1.out.1 HS1.out.2 HLIM.out.1).mono ?_
            rintro e w2 ⟨rfl, hs1, hg1⟩
            have HS2 := Lib.hid (And.intro hs1 hg1)
            clear hs1 hg1 HS1
            go_wp2_with fail
            refine (bg_new HS2.out.1 HS2.out.2 m (by omega)).mono ?_
            rintro e w3 ⟨z3, T3, rfl, hs1, hg1, hz1⟩
            have HS3 := Lib.hid (And.intro hs1 (And.intro hg1 hz1))
            clear hs1 hg1 hz1 HS2
            go_wp2_with fail
            refine (bg_or HS3.out.1 HS3.out.2.1 (by omega) HLIM.out.2.1 (by omega) hm128 HS3.out.2.2).mono ?_
            rintro e w4 ⟨rfl, hs1, hg1⟩
            have HS4 := Lib.hid (And.intro hs1 hg1)
            clear hs1 hg1 HS3
            go_wp2_with fail
            refine (bg_append HS4.out.1 HS4.out.2 (by omega) HLIM.out.2.2).mono ?_
            rintro e w5 ⟨r5, cap5, rfl, ho1, hs1, hg1⟩
            have HS5 := Lib.hid (And.intro hs1 hg1)
            have HR5 := Lib.hid ho1
            clear hs1 hg1 ho1 HS4
            go_wp2_with fail
            refine (sn_write HS5.out.1 (Lib.decDigits (acc * 128 + m)) HR5.out (by have := dec_le HLIM.out.2.2; have := HOUT.out; simp; omega)).mono ?_
            rintro e w6 ⟨rfl, v6, hs1, hn1, hc1⟩
            have HS6 := Lib.hid (And.intro hs1 (HS5.out.2.bd HS5.out.1 hn1 hc1))
            clear hs1 hn1 hc1 HS5
            go_wp2_with fail
            go_roundg (l.length - (i + 1))
            case measure => omega
            case rel =>
              have hb : Big W w6 r5 v6 0 (.int .u64 0) (.pointer (some ⟨g, 0, none⟩)) (.bool false) := .inr ⟨rfl, rfl, by omega, HS6.out.2.idle⟩
              exact ⟨i + 1, (i + 1), 0, r5, cap5, v6, ((out ++ [46]) ++ (Lib.decDigits (acc * 128 + m))), by omega, rfl, by go_num, by go_num, rfl, (END HS6.out.1), hb⟩
          · by_cases hsafe : acc < 144115188075855872
            · have hs1 : ¬ (144115188075855871 < (acc : Int)) := by omega
              have hor := or7 hsafe hm128
              obtain ⟨V, hV⟩ : ∃ V, V = acc * 128 + m := ⟨_, rfl⟩
              rw [← hV] at hor
              have hV64 : V < 18446744073709551616 := by omega
              have HV := Lib.hid hV
              have HS0 := Lib.hid (And.intro HL.out.sn h7)
              clear h7 hV
              go_wp2_with fail
              refine (sn_dot HS0.out.1 (by have := HOUT.out; omega)).mono ?_
              rintro e w1 ⟨rfl, v1, hs1, hn1, hc1⟩
              have HS1 := Lib.hid (And.intro hs1 (HS0.out.2.bd HS0.out.1 hc1))
              clear hs1 hn1 hc1 HS0
              go_wp2_with fail
              refine (sn_uint HS1.out.1 V (by omega) HTAB.out).mono ?_
              rintro e w2 ⟨rfl, ho1, hs1, hc1⟩
              have HS2 := Lib.hid (And.intro hs1 (HS1.out.2.num HS1.out.1 hc1))
              have HR2 := Lib.hid ho1
              clear hs1 hc1 ho1 HS1
              go_wp2_with fail
              refine (sn_write HS2.out.1 (Lib.decDigits V) HR2.out (by have := dec_le (n := V) (by rw [HV.out]; exact HLIM.out.2.2); have := HOUT.out; simp; omega)).mono ?_
              rintro e w3 ⟨rfl, v3, hs1, hn1, hc1⟩
              have HS3 := Lib.hid (And.intro hs1 (HS2.out.2.bd HS2.out.1 hc1))
              clear hs1 hn1 hc1 HS2
              go_wp2_with fail
              go_roundg (l.length - (i + 1))
              case measure => omega
              case rel =>
                have hb : Big W w3 r v3 0 (.int .u64 0) _ (.bool false) := .inr ⟨rfl, rfl, by omega, HS3.out.2⟩
                exact ⟨i + 1, (i + 1), 0, r, cap, v3, _, by omega, rfl, by go_num, by go_num, rfl, (END (by rw [← HV.out]; exact HS3.out.1)), hb⟩
            · have hs1 : 144115188075855871 < (acc : Int) := by omega
              rcases h7 with rfl | ⟨g, x0, y0, rfl, hg0, hgb⟩
              · have HS0 := Lib.hid (And.intro HL.out.sn True.intro)
                go_wp2_with fail
                refine (sn_dot HS0.out.1 (by have := HOUT.out; omega)).mono ?_
                rintro e w1 ⟨rfl, v1, hs1, hn1, hc1⟩
                have HS1 := Lib.hid (And.intro hs1 True.intro)
                clear hs1 hn1 hc1 HS0
                go_wp2_with fail
                refine (bg_set (HS1.out.1.step_new ((Below.refl _ _).alloc (Nat.le_refl _) _)) (Nat.le_of_lt HS1.out.1.sb_lt) (heap_alloc_new _ _) acc hacc).mono ?_
                rintro e w2 ⟨rfl, hs1, hg1⟩
                have HS2 := Lib.hid (And.intro hs1 hg1)
                clear hs1 hg1 HS1
                go_wp2_with fail
                refine (bg_lsh HS2.out.1 HS2.out.2 HLIM.out.1).mono ?_
                rintro e w3 ⟨rfl, hs1, hg1⟩
                have HS3 := Lib.hid (And.intro hs1 hg1)
                clear hs1 hg1 HS2
                go_wp2_with fail
                refine (bg_new HS3.out.1 HS3.out.2 m (by omega)).mono ?_
                rintro e w4 ⟨z4, T4, rfl, hs1, hg1, hz1⟩
                have HS4 := Lib.hid (And.intro hs1 (And.intro hg1 hz1))
                clear hs1 hg1 hz1 HS3
                go_wp2_with fail
                refine (bg_or HS4.out.1 HS4.out.2.1 (by omega) HLIM.out.2.1 (by omega) hm128 HS4.out.2.2).mono ?_
                rintro e w5 ⟨rfl, hs1, hg1⟩
                have HS5 := Lib.hid (And.intro hs1 hg1)
                clear hs1 hg1 HS4
                go_wp2_with fail
                refine (bg_append HS5.out.1 HS5.out.2 (by omega) HLIM.out.2.2).mono ?_
                rintro e w6 ⟨r6, cap6, rfl, ho1, hs1, hg1⟩
                have HS6 := Lib.hid (And.intro hs1 hg1)
                have HR6 := Lib.hid ho1
                clear hs1 hg1 ho1 HS5
                go_wp2_with fail
                refine (sn_write HS6.out.1 (Lib.decDigits (acc * 128 + m)) HR6.out (by have := dec_le HLIM.out.2.2; have := HOUT.out; simp; omega)).mono ?_
                rintro e w7 ⟨rfl, v7, hs1, hn1, hc1⟩
                have HS7 := Lib.hid (And.intro hs1 (HS6.out.2.bd HS6.out.1 hn1 hc1))
                clear hs1 hn1 hc1 HS6
                go_wp2_with fail
                go_roundg (l.length - (i + 1))
                case measure => omega
                case rel =>
                  have hb : Big W w7 r6 v7 0 (.int .u64 0) (.pointer (some ⟨w1.heap.size, 0, none⟩)) (.bool false) := .inr ⟨rfl, rfl, by omega, HS7.out.2.idle⟩
                  exact ⟨i + 1, (i + 1), 0, r6, cap6, v7, ((out ++ [46]) ++ (Lib.decDigits (acc * 128 + m))), by omega, rfl, by go_num, by go_num, rfl, (END HS7.out.1), hb⟩
              · have HS0 := Lib.hid (And.intro HL.out.sn (And.intro hg0 hgb))
                clear hg0 hgb
                go_wp2_with fail
                refine (sn_dot HS0.out.1 (by have := HOUT.out; omega)).mono ?_
                rintro e w1 ⟨rfl, v1, hs1, hn1, hc1⟩
                have HS1 := Lib.hid (And.intro hs1 (And.intro HS0.out.2.1 (HS0.out.1.blk_bd HS0.out.2.2 hc1)))
                clear hs1 hn1 hc1 HS0
                go_wp2_with fail
                refine (bg_set HS1.out.1 HS1.out.2.1 HS1.out.2.2 acc hacc).mono ?_
                rintro e w2 ⟨rfl, hs1, hg1⟩
                have HS2 := Lib.hid (And.intro hs1 hg1)
                clear hs1 hg1 HS1
                go_wp2_with fail
                refine (bg_lsh HS2.out.1 HS2.out.2 HLIM.out.1).mono ?_
                rintro e w3 ⟨rfl, hs1, hg1⟩
                have HS3 := Lib.hid (And.intro hs1 hg1)
                clear hs1 hg1 HS2
                go_wp2_with fail
                refine (bg_new HS3.out.1 HS3.out.2 m (by omega)).mono ?_
                rintro e w4 ⟨z4, T4, rfl, hs1, hg1, hz1⟩
                have HS4 := Lib.hid (And.intro hs1 (And.intro hg1 hz1))
                clear hs1 hg1 hz1 HS3
                go_wp2_with fail
                refine (bg_or HS4.out.1 HS4.out.2.1 (by omega) HLIM.out.2.1 (by omega) hm128 HS4.out.2.2).mono ?_
                rintro e w5 ⟨rfl, hs1, hg1⟩
                have HS5 := Lib.hid (And.intro hs1 hg1)
                clear hs1 hg1 HS4
                go_wp2_with fail
                refine (bg_append HS5.out.1 HS5.out.2 (by omega) HLIM.out.2.2).mono ?_
                rintro e w6 ⟨r6, cap6, rfl, ho1, hs1, hg1⟩
                have HS6 := Lib.hid (And.intro hs1 hg1)
                have HR6 := Lib.hid ho1
                clear hs1 hg1 ho1 HS5
                go_wp2_with fail
                refine (sn_write HS6.out.1 (Lib.decDigits (acc * 128 + m)) HR6.out (by have := dec_le HLIM.out.2.2; have := HOUT.out; simp; omega)).mono ?_
                rintro e w7 ⟨rfl, v7, hs1, hn1, hc1⟩
                have HS7 := Lib.hid (And.intro hs1 (HS6.out.2.bd HS6.out.1 hn1 hc1))
                clear hs1 hn1 hc1 HS6
                go_wp2_with fail
                go_roundg (l.length - (i + 1))
                case measure => omega
                case rel =>
                  have hb : Big W w7 r6 v7 0 (.int .u64 0) (.pointer (some ⟨g, 0, none⟩)) (.bool false) := .inr ⟨rfl, rfl, by omega, HS7.out.2.idle⟩
                  exact ⟨i + 1, (i + 1), 0, r6, cap6, v7, ((out ++ [46]) ++ (Lib.decDigits (acc * 128 + m))), by omega, rfl, by go_num, by go_num, rfl, (END HS7.out.1), hb⟩
      · have hend1 := hend
        rw [if_neg hend] at h128
        obtain ⟨hd, ha, hlim0, hlim1, hlim2, hout⟩ := hL.next hin hl hx
        rw [← hn] at hlim2
        obtain ⟨m, hm⟩ : ∃ m, m = n % 128 := ⟨_, rfl⟩
        rw [← hm] at h127 hlim2
        have hm128 : m < 128 := by omega
        have HM := Lib.hid hm
        have HL := Lib.hid hL
        have HE := Lib.hid hend
        have HOUT := Lib.hid hout
        have HLIM := Lib.hid (And.intro hlim0 (And.intro hlim1 hlim2))
        have HX := Lib.hid (And.intro hx hn)
        have hz : ((128 : Int) == 0) = false := by decide
        clear hd ha hlim0 hlim1 hlim2 hout hm hL hend hx hn
        clear hend1
        have END : ∀ {w1 r1 cap1}, Sn W w1 r1 cap1 v out → Lp W w1 l (i + 1) st (acc * 128 + m) r1 cap1 v out := fun hs => by
          have := HL.out.more hin hl HX.out.1 (by rw [← HX.out.2]; exact HE.out) hs
          rw [← HX.out.2, ← HM.out] at this
          exact this
        rcases hB with ⟨rfl, ⟨g, rfl, hg⟩, hacc, u, rfl⟩ | ⟨rfl, rfl, hacc, h7⟩
        · have HS0 := Lib.hid (And.intro HL.out.sn hg)
          clear hg
          go_wp2_with fail
          refine (bg_lsh HS0.out.1 HS0.out.2 HLIM.out.1).mono ?_
          rintro e w1 ⟨rfl, hs1, hg1⟩
          have HS1 := Lib.hid (And.intro hs1 hg1)
          clear hs1 hg1 HS0
          go_wp2_with fail
          refine (bg_new HS1.out.1 HS1.out.2 m (by omega)).mono ?_
          rintro e w2 ⟨z2, T2, rfl, hs1, hg1, hz1⟩
          have HS2 := Lib.hid (And.intro hs1 (And.intro hg1 hz1))
          clear hs1 hg1 hz1 HS1
          go_wp2_with fail
          refine (bg_or HS2.out.1 HS2.out.2.1 (by omega) HLIM.out.2.1 (by omega) hm128 HS2.out.2.2).mono ?_
          rintro e w3 ⟨rfl, hs1, hg1⟩
          have HS3 := Lib.hid (And.intro hs1 hg1)
          clear hs1 hg1 HS2
          go_wp2_with fail
          go_roundg (l.length - (i + 1))
          case measure => omega
          case rel =>
            have hb : Big W w3 r v (acc * 128 + m) (.int .u64 u) (.pointer (some ⟨g, 0, none⟩)) (.bool true) := .inl ⟨rfl, ⟨_, rfl, HS3.out.2⟩, by omega, _, rfl⟩
            exact ⟨i + 1, st, (acc * 128 + m), r, cap, v, out, by omega, rfl, by go_num, rfl, rfl, END HS3.out.1, hb⟩
        · by_cases hsafe : acc < 144115188075855872
          · have hs1 : ¬ (144115188075855871 < (acc : Int)) := by omega
            have hor := or7 hsafe hm128
            obtain ⟨V, hV⟩ : ∃ V, V = acc * 128 + m := ⟨_, rfl⟩
            rw [← hV] at hor
            have hV64 : V < 18446744073709551616 := by omega
            have HV := Lib.hid hV
            have HS0 := Lib.hid (And.intro HL.out.sn h7)
            clear h7 hV
            go_wp2_with fail
            go_roundg (l.length - (i + 1))
            case measure => omega
            case rel =>
              have hb : Big W wr r v (acc * 128 + m) (.int .u64 V) _ (.bool false) := .inr ⟨rfl, by rw [HV.out], by omega, HS0.out.2⟩
              exact ⟨i + 1, st, (acc * 128 + m), r, cap, v, out, by omega, rfl, by go_num, rfl, rfl, END HS0.out.1, hb⟩
          · have hs1 : 144115188075855871 < (acc : Int) := by omega
            rcases h7 with rfl | ⟨g, x0, y0, rfl, hg0, hgb⟩
            · have HS0 := Lib.hid (And.intro HL.out.sn True.intro)
              go_wp2_with fail
              refine (bg_set (HS0.out.1.step_new ((Below.refl _ _).alloc (Nat.le_refl _) _)) (Nat.le_of_lt HS0.out.1.sb_lt) (heap_alloc_new _ _) acc hacc).mono ?_
              rintro e w1 ⟨rfl, hs1, hg1⟩
              have HS1 := Lib.hid (And.intro hs1 hg1)
              clear hs1 hg1 HS0
              go_wp2_with fail
              refine (bg_lsh HS1.out.1 HS1.out.2 HLIM.out.1).mono ?_
              rintro e w2 ⟨rfl, hs1, hg1⟩
              have HS2 := Lib.hid (And.intro hs1 hg1)
              clear hs1 hg1 HS1
              go_wp2_with fail
              refine (bg_new HS2.out.1 HS2.out.2 m (by omega)).mono ?_
              rintro e w3 ⟨z3, T3, rfl, hs1, hg1, hz1⟩
              have HS3 := Lib.hid (And.intro hs1 (And.intro hg1 hz1))
              clear hs1 hg1 hz1 HS2
              go_wp2_with fail
              refine (bg_or HS3.out.1 HS3.out.2.1 (by omega) HLIM.out.2.1 (by omega) hm128 HS3.out.2.2).mono ?_
              rintro e w4 ⟨rfl, hs1, hg1⟩
              have HS4 := Lib.hid (And.intro hs1 hg1)
              clear hs1 hg1 HS3
              go_wp2_with fail
              go_roundg (l.length - (i + 1))
              case measure => omega
              case rel =>
                have hb : Big W w4 r v (acc * 128 + m) (.int .u64 acc) (.pointer (some ⟨wr.heap.size, 0, none⟩)) (.bool true) := .inl ⟨rfl, ⟨_, rfl, HS4.out.2⟩, by omega, _, rfl⟩
                exact ⟨i + 1, st, (acc * 128 + m), r, cap, v, out, by omega, rfl, by go_num, rfl, rfl, END HS4.out.1, hb⟩
            · have HS0 := Lib.hid (And.intro HL.out.sn (And.intro hg0 hgb))
              clear hg0 hgb
              go_wp2_with fail
              refine (bg_set HS0.out.1 HS0.out.2.1 HS0.out.2.2 acc hacc).mono ?_
              rintro e w1 ⟨rfl, hs1, hg1⟩
              have HS1 := Lib.hid (And.intro hs1 hg1)
              clear hs1 hg1 HS0
              go_wp2_with fail
              refine (bg_lsh HS1.out.1 HS1.out.2 HLIM.out.1).mono ?_
              rintro e w2 ⟨rfl, hs1, hg1⟩
              have HS2 := Lib.hid (And.intro hs1 hg1)
              clear hs1 hg1 HS1
              go_wp2_with fail
              refine (bg_new HS2.out.1 HS2.out.2 m (by omega)).mono ?_
              rintro e w3 ⟨z3, T3, rfl, hs1, hg1, hz1⟩
              have HS3 := Lib.hid (And.intro hs1 (And.intro hg1 hz1))
              clear hs1 hg1 hz1 HS2
              go_wp2_with fail
              refine (bg_or HS3.out.1 HS3.out.2.1 (by omega) HLIM.out.2.1 (by omega) hm128 HS3.out.2.2).mono ?_
              rintro e w4 ⟨rfl, hs1, hg1⟩
              have HS4 := Lib.hid (And.intro hs1 hg1)
              clear hs1 hg1 HS3
              go_wp2_with fail
              go_roundg (l.length - (i + 1))
              case measure => omega
              case rel =>
                have hb : Big W w4 r v (acc * 128 + m) (.int .u64 acc) (.pointer (some ⟨g, 0, none⟩)) (.bool true) := .inl ⟨rfl, ⟨_, rfl, HS4.out.2⟩, by omega, _, rfl⟩
                exact ⟨i + 1, st, (acc * 128 + m), r, cap, v, out, by omega, rfl, by go_num, rfl, rfl, END HS4.out.1, hb⟩
    · obtain rfl : i = l.length := by omega
      have hval := hL.val
      rw [List.drop_length, oidGo] at hval
      have HV := Lib.hid hval
      have hbd : Lib.IsBuilderF 59 5 W.heap.size W.heap.size (Lib.byteCells out) wr := by
        obtain ⟨⟨p, hp, hb⟩, ho⟩ := hL.sn.bd
        have ho' : wr.ownsRow W.heap.size 5 1 v (Lib.byteCells out).length (Lib.byteCells out) := by rw [Lib.byteCells_length]; exact ho
        rcases hp with rfl | rfl
        · exact .inl (.of ⟨Nat.le_refl _, v, hb, ho', hL.sn.v_ne⟩)
        · exact .inr (.of ⟨Nat.le_refl _, v, hb, ho', hL.sn.v_ne⟩)
      have HBE := Lib.hid hL.sn.be
      have HBD := Lib.hid hbd
      clear hL hB hval hbd hmk hW3 HS
      go_wp2_with fail
      refine (Tryd.Builder_String_any_k W.heap.size W.heap.size out wr HBD.out HBE.out.size).mono ?_
      rintro e w1 ⟨rfl, _, hB1, _⟩
      have HB1 := Lib.hid (HBE.out.trans hB1)
      clear hB1
      go_wp2
      go_ret
      exact ⟨by rw [HV.out]; rfl, by rw [HWS0.out]; exact HWB.out _ HB1.out⟩
end Go.Proofs.YtiopgkdldkkonaaDoor

/-
  THE STATE OF OID's String BETWEEN TWO STATEMENTS, and what each call that it makes comes to over it. (W: the world ahead of the builder, whose block is W.heap.size.)
-/
import Derived.Test.YtiopgkdldkkonaaDoorT
namespace Go.Proofs.YtiopgkdldkkonaaDoor
open Go.RowKit Go.Proofs.YtiopgkdldkkonaaDoorW.PrintWords Go.Proofs.YtiopgkdldkkonaaDoor.Num
set_option linter.unusedVariables false
set_option linter.unusedSimpArgs false

theorem tabIs_below {P : Program} {w w1 : World} {name : String} {k : IntKind} {zs : List Int} (h : Lib.TabIs P w name k zs) (hb : Below w.heap.size w w1) : Lib.TabIs P w1 name k zs := by
  unfold Lib.TabIs World.var? at *
  cases hg : P.globalNamed name with
  | none => simp [hg] at h
  | some g =>
    simp only [hg, Option.bind_some] at h ⊢
    have hlt : g < w.heap.size := by
      refine Nat.lt_of_not_le fun hle => ?_
      rw [Array.getElem?_eq_none hle] at h
      simp at h
    rw [hb.block g hlt]
    exact h

def sbp (W : World) : Value := .pointer (some ⟨W.heap.size, 0, none⟩)
structure Sn (W w : World) (r cap : Nat) (v : Value) (out : List UInt8) : Prop where
  be : Below W.heap.size W w
  bd : Bd w W.heap.size W.heap.size v out
  ob : w.ownsRow W.heap.size 5 1 (.slice (some ⟨r, 0, none⟩) 0 cap) 0 []
  cap : 20 ≤ cap
  ne : v.ownBlock ≠ some r

section
variable {W w w1 : World} {r cap : Nat} {v : Value} {out : List UInt8}
theorem own_blk {w : World} {base n r cap : Nat} {xs : List Value} (h : w.ownsRow base 5 1 (.slice (some ⟨r, 0, none⟩) n cap) n xs) : base ≤ r ∧ r < w.heap.size ∧ ∃ cs, w.heap[r]? = some (.cells cs 5 (0, 0)) :=
  ⟨own_base h r (by simp [Value.ownBlock]), own_lt h r (by simp [Value.ownBlock]), own_typed h r (by simp [Value.ownBlock])⟩
theorem own_zero {w : World} {base n r cap : Nat} {xs : List Value} (h : w.ownsRow base 5 1 (.slice (some ⟨r, 0, none⟩) n cap) n xs) : w.ownsRow base 5 1 (.slice (some ⟨r, 0, none⟩) 0 cap) 0 [] := by
  rcases h.2 with ⟨hv, _⟩ | ⟨g, cap', cur, hv, hb, hr, h1, hcm, hcs, htk⟩
  · cases hv
  · injection hv with e1 e2 e3
    injection e1 with e1
    injection e1 with e1 _ _
    subst e1; subst e3
    exact ⟨rfl, .inr ⟨r, cap, cur, rfl, hb, hr, Nat.zero_le _, hcm, hcs, by simp⟩⟩
theorem Sn.blk (h : Sn W w r cap v out) : ∃ p, w.heap[W.heap.size]? = some (.cells #[p, v] 59 (0, 0)) := by
  obtain ⟨⟨p, _, hp⟩, _⟩ := h.bd
  exact ⟨p, hp⟩
theorem Sn.sb_lt (h : Sn W w r cap v out) : W.heap.size < w.heap.size := by
  obtain ⟨p, hp⟩ := h.blk
  exact blk_lt hp
theorem Sn.sb_ne (h : Sn W w r cap v out) : r ≠ W.heap.size := by
  obtain ⟨p, hp⟩ := h.blk
  obtain ⟨_, _, cs, hc⟩ := own_blk h.ob
  exact blk_ne hc hp (by decide)
theorem Sn.v_ne (h : Sn W w r cap v out) : v.ownBlock ≠ some W.heap.size := by
  obtain ⟨p, hp⟩ := h.blk
  exact ne_own h.bd.2 hp (by decide)
theorem Sn.v_lt (h : Sn W w r cap v out) {k : Nat} (hk : v.ownBlock = some k) : W.heap.size ≤ k ∧ k < w.heap.size := ⟨own_base h.bd.2 k hk, own_lt h.bd.2 k hk⟩
theorem Sn.r_lt (h : Sn W w r cap v out) : W.heap.size ≤ r ∧ r < w.heap.size := by
  obtain ⟨a, b, _⟩ := own_blk h.ob
  exact ⟨a, b⟩

/-- What no component is in is written. -/
theorem Sn.step {T : Nat → Prop} (h : Sn W w r cap v out) (hc : Ch w w1 T) (hT : ∀ k, T k → W.heap.size ≤ k ∧ k ≠ W.heap.size ∧ k ≠ r ∧ v.ownBlock ≠ some k) : Sn W w1 r cap v out :=
  ⟨h.be.trans (hc.below (Nat.le_of_lt h.sb_lt) (fun k hk => (hT k hk).1)), h.bd.ch hc (fun hk => (hT _ hk).2.1 rfl) (fun k hv hk => (hT k hk).2.2.2 hv), hc.own h.ob (fun k hk hk2 => by
    have : r = k := by simpa [Value.ownBlock] using hk
    exact (hT k hk2).2.2.1 this.symm), h.cap, h.ne⟩
/-- The builder is written. -/
theorem Sn.step_bd {l : List UInt8} (h : Sn W w r cap v out) (hp : BdPost w W.heap.size W.heap.size v l w1) : ∃ v1, Sn W w1 r cap v1 l ∧ Nx w v v1 ∧ Ch w w1 (fun k => k = W.heap.size ∨ some k = v.ownBlock) := by
  obtain ⟨v1, h1, h2, h3, h4⟩ := hp
  refine ⟨v1, ⟨h.be.trans (h4.below (Nat.le_of_lt h.sb_lt) (fun k hk => ?_)), h1, h4.own h.ob (fun k hk hk2 => ?_), h.cap, ?_⟩, h3, h4⟩
  · rcases hk with rfl | hk
    · exact Nat.le_refl _
    · exact (h.v_lt hk.symm).1
  · have : r = k := by simpa [Value.ownBlock] using hk
    subst this
    rcases hk2 with hk2 | hk2
    · exact h.sb_ne hk2
    · exact h.ne hk2.symm
  · rcases h3 with h3 | ⟨q, hq, hle⟩
    · rw [h3]; exact h.ne
    · rw [hq]; have := h.r_lt.2; intro e; injection e with e; omega
/-- numBuf's row is written, or there is a new one. -/
theorem Sn.step_num {r2 cap2 n : Nat} {xs : List Value} (h : Sn W w r cap v out) (hc : Ch w w1 (fun k => k = r)) (ho : w1.ownsRow W.heap.size 5 1 (.slice (some ⟨r2, 0, none⟩) n cap2) n xs) (hr : r2 = r ∨ w.heap.size ≤ r2) (hcap : 20 ≤ cap2) : Sn W w1 r2 cap2 v out := by
  refine ⟨h.be.trans (hc.below (Nat.le_of_lt h.sb_lt) (fun k hk => by subst hk; exact h.r_lt.1)), h.bd.ch hc (fun e => h.sb_ne e.symm) (fun k hv hk => by subst hk; exact h.ne hv), own_zero ho, hcap, fun e => ?_⟩
  rcases hr with rfl | hr
  · exact h.ne e
  · have := (h.v_lt e).2; omega

theorem sn_byte (h : Sn W w r cap v out) (c : UInt8) (hl : out.length + 1 ≤ 140737488355328) :
    Calls Tryd.prog 25 #[.pointer (some ⟨W.heap.size, 0, none⟩), .int .u8 c.toNat] w fun e w' => e = .returned .nilIface ∧ ∃ v1, Sn W w' r cap v1 (out ++ [c]) ∧ Nx w v v1 ∧ Ch w w' (fun k => k = W.heap.size ∨ some k = v.ownBlock) :=
  (writeByte_any W.heap.size W.heap.size v out c w h.bd (Nat.le_of_lt h.sb_lt) hl).mono fun e w' ⟨he, hp⟩ => ⟨he, h.step_bd hp⟩
theorem sn_str {rr cc : Nat} (h : Sn W w r cap (.slice (some ⟨rr, 0, none⟩) out.length cc) out) (s : List UInt8) (hl : out.length + s.length ≤ cc) :
    Calls Tryd.prog 30 #[.pointer (some ⟨W.heap.size, 0, none⟩), .string ⟨s.toArray⟩] w fun e w' => e = .returned (.tuple #[.int .i64 s.length, .nilIface]) ∧ ∃ v1, Sn W w' r cap v1 (out ++ s) ∧ Nx w (.slice (some ⟨rr, 0, none⟩) out.length cc) v1 ∧ Ch w w' (fun k => k = W.heap.size ∨ some k = (Value.slice (some ⟨rr, 0, none⟩) out.length cc).ownBlock) :=
  (writeString_room W.heap.size W.heap.size rr cc out s w h.bd (Nat.le_of_lt h.sb_lt) hl).mono fun e w' ⟨he, hp⟩ => ⟨he, h.step_bd hp⟩
theorem sn_write {c2 : Nat} (h : Sn W w r cap v out) (s : List UInt8) (ho : w.ownsRow W.heap.size 5 1 (.slice (some ⟨r, 0, none⟩) s.length c2) s.length (Lib.byteCells s)) (hl : out.length + s.length ≤ 140737488355328) :
    Calls Tryd.prog 33 #[.pointer (some ⟨W.heap.size, 0, none⟩), .slice (some ⟨r, 0, none⟩) s.length c2] w fun e w' => e = .returned (.tuple #[.int .i64 s.length, .nilIface]) ∧ ∃ v1, Sn W w' r cap v1 (out ++ s) ∧ Nx w v v1 ∧ Ch w w' (fun k => k = W.heap.size ∨ some k = v.ownBlock) :=
  (write_any W.heap.size W.heap.size v out s ⟨r, 0, none⟩ c2 w h.bd (Nat.le_of_lt h.sb_lt) hl h.sb_ne (ho.cells rfl)).mono fun e w' ⟨he, hp⟩ => ⟨he, h.step_bd hp⟩
theorem sn_uint (h : Sn W w r cap v out) (u : Nat) (hu : u < 18446744073709551616) (htab : Lib.TabIs Tryd.prog W "internal/strconv.uint64pow10" .u64 Lib.pow10Tab) :
    Calls Tryd.prog 34 #[.slice (some ⟨r, 0, none⟩) 0 cap, .int .u64 u, .int .i64 10] w fun e w' => e = .returned (.slice (some ⟨r, 0, none⟩) (Lib.decDigits u).length cap) ∧
      w'.ownsRow W.heap.size 5 1 (.slice (some ⟨r, 0, none⟩) (Lib.decDigits u).length cap) (Lib.decDigits u).length (Lib.byteCells (Lib.decDigits u)) ∧ Sn W w' r cap v out ∧ Ch w w' (fun k => k = r) :=
  (appendUint_any W.heap.size r cap u hu w h.ob h.cap (tabIs_below htab h.be)).mono fun e w' ⟨he, ho, hc⟩ => ⟨he, ho, h.step_num hc ho (.inl rfl) h.cap, hc⟩

/-- The whole number behind bigVal: block g, of the call's own; its digits lie in no other component. -/
def Bg (W w : World) (r : Nat) (v : Value) (g acc : Nat) : Prop := W.heap.size ≤ g ∧ ∃ S, It w g acc S ∧ ∀ k, S k → W.heap.size ≤ k ∧ k ≠ W.heap.size ∧ k ≠ r ∧ v.ownBlock ≠ some k ∧ k < w.heap.size
theorem Bg.blk {g acc : Nat} (h : Bg W w r v g acc) : ∃ x y, w.heap[g]? = some (.cells #[x, y] 66 (0, 0)) := by
  obtain ⟨_, S, ⟨u, hu, _⟩, _⟩ := h
  exact ⟨_, _, hu⟩
/-- A block of the number's type is none of the others. -/
theorem Sn.g_ne {g : Nat} {x y : Value} (h : Sn W w r cap v out) (hg : w.heap[g]? = some (.cells #[x, y] 66 (0, 0))) : g ≠ W.heap.size ∧ g ≠ r ∧ v.ownBlock ≠ some g := by
  obtain ⟨p, hp⟩ := h.blk
  obtain ⟨_, _, cs, hc⟩ := own_blk h.ob
  exact ⟨blk_ne hg hp (by decide), blk_ne hg hc (by decide), ne_own h.bd.2 hg (by decide)⟩
/-- The builder or numBuf's row is written: the number stays. -/
theorem Bg.step {T : Nat → Prop} {g acc r1 : Nat} {v1 : Value} (h : Bg W w r v g acc) (hs : Sn W w r cap v out) (hc : Ch w w1 T) (hT : ∀ k, T k → k = W.heap.size ∨ k = r ∨ v.ownBlock = some k) (hv : Nx w v v1) (hr : r1 = r ∨ w.heap.size ≤ r1) : Bg W w1 r1 v1 g acc := by
  obtain ⟨h0, S, hI, hS⟩ := h
  have hg : g ≠ W.heap.size ∧ g ≠ r ∧ v.ownBlock ≠ some g := by
    obtain ⟨u, hu, _⟩ := id hI
    exact hs.g_ne hu
  refine ⟨h0, S, hI.ch hc (fun hk => ?_) (fun k hk _ hk2 => ?_), fun k hk => ?_⟩
  · rcases hT _ hk with h | h | h
    · exact hg.1 h
    · exact hg.2.1 h
    · exact hg.2.2 h
  · obtain ⟨_, a, b, c, _⟩ := hS k hk
    rcases hT _ hk2 with h | h | h
    · exact a h
    · exact b h
    · exact c h
  · obtain ⟨z, a, b, c, d⟩ := hS k hk
    refine ⟨z, a, ?_, ?_, Nat.lt_of_lt_of_le d hc.size⟩
    · rcases hr with rfl | hr
      · exact b
      · omega
    · rcases hv with hv | ⟨q, hq, hle⟩
      · rw [hv]; exact c
      · rw [hq]; intro e; injection e with e; omega
theorem Nx.refl (w : World) (v : Value) : Nx w v v := .inl rfl
/-- Something is laid into the number. -/
theorem Sn.step_big {g n : Nat} {x y : Value} (h : Sn W w r cap v out) (h0 : W.heap.size ≤ g) (hg : w.heap[g]? = some (.cells #[x, y] 66 (0, 0))) (hp : ItPost w g n w1) : Sn W w1 r cap v out ∧ Bg W w1 r v g n := by
  obtain ⟨hI, hc⟩ := hp
  obtain ⟨g1, g2, g3⟩ := h.g_ne hg
  refine ⟨h.step hc (fun k hk => by subst hk; exact ⟨h0, g1, g2, g3⟩), h0, _, hI.bound, fun k hk => ?_⟩
  have := h.sb_lt; have := h.r_lt.2
  exact ⟨by omega, by omega, by omega, fun e => by have := (h.v_lt e).2; omega, hk.2⟩
/-- Something is made anew. -/
theorem Sn.step_new (h : Sn W w r cap v out) (hb : Below w.heap.size w w1) : Sn W w1 r cap v out :=
  h.step (T := fun _ => False) (Ch.of_below' hb _) (fun k hk => hk.elim)
theorem Bg.step_new {g acc : Nat} (h : Bg W w r v g acc) (hs : Sn W w r cap v out) (hb : Below w.heap.size w w1) : Bg W w1 r v g acc :=
  h.step hs (T := fun _ => False) (Ch.of_below' hb _) (fun k hk => hk.elim) (Nx.refl w v) (.inl rfl)
end

/-! ### what is said, in plain Lean -/
/-- The first arc's two numbers. -/
def head1 (n : Nat) : List UInt8 := if n < 80 then Lib.decDigits (n / 40) ++ [46] ++ Lib.decDigits (n % 40) else [50, 46] ++ Lib.decDigits (n - 80)
/-- The text of bytes: what is gathered so far, whether the first number still stands out, what the number under way has come to. -/
def oidGo : List UInt8 → Bool → Nat → List UInt8 → List UInt8
  | [], _, _, out => out
  | x :: t, first, acc, out =>
    if x.toNat < 128 then oidGo t false 0 (if first then out ++ head1 (acc * 128 + x.toNat) else out ++ [46] ++ Lib.decDigits (acc * 128 + x.toNat))
    else oidGo t first (acc * 128 + x.toNat % 128) out
def oidText (l : List UInt8) : List UInt8 := oidGo l true 0 []
end Go.Proofs.YtiopgkdldkkonaaDoor

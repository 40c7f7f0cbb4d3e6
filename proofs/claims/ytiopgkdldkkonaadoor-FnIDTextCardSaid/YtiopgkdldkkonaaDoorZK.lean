/-
  WORDS OF THIS CLAIM: what a call leaves as it was (Ch); a number's digits in memory (Nt), a whole number behind a pointer (It), bytes that are read (By), a builder (Bd). No walk.
-/
import Derived.Test.YtiopgkdldkkonaaDoorZNat
import Derived.Lib.Builder
import Derived.Lib.UnsafeStr
namespace Go.Proofs.YtiopgkdldkkonaaDoor
open Go.RowKit Go.Proofs.YtiopgkdldkkonaaDoorW.PrintWords Go.Proofs.YtiopgkdldkkonaaDoor.Num

/-- All but the blocks of S (and what is new) is as it was. -/
structure Ch (w w' : World) (S : Nat → Prop) : Prop where
  os : w'.os = w.os
  tape : w'.tape = w.tape
  output : w'.output = w.output
  size : w.heap.size ≤ w'.heap.size
  block : ∀ k, k < w.heap.size → ¬ S k → w'.heap[k]? = w.heap[k]?

section
variable {w w1 w2 : World} {S T : Nat → Prop}
theorem Ch.refl (w : World) (S : Nat → Prop) : Ch w w S := ⟨rfl, rfl, rfl, Nat.le_refl _, fun _ _ _ => rfl⟩
theorem Ch.of_below {B : Nat} (h : Below B w w1) (hS : ∀ k, B ≤ k → k < w.heap.size → S k) : Ch w w1 S :=
  ⟨h.os, h.tape, h.output, h.size, fun k hk hn => h.block k (Nat.lt_of_not_le fun hb => hn (hS k hb hk))⟩
theorem Ch.of_below' (h : Below w.heap.size w w1) (S : Nat → Prop) : Ch w w1 S := .of_below h (fun k h0 h1 => by omega)
theorem Ch.of_grown {row : Option Nat} (h : w.grownBy w1 row) (hS : ∀ k, row = some k → S k) : Ch w w1 S :=
  ⟨h.os, h.tape, h.output, h.size, fun k hk hn => h.block k hk (fun e => hn (hS k e.symm))⟩
theorem Ch.mono (h : Ch w w1 S) (hs : ∀ k, k < w.heap.size → S k → T k) : Ch w w1 T := ⟨h.os, h.tape, h.output, h.size, fun k hk hn => h.block k hk (fun hh => hn (hs k hk hh))⟩
theorem Ch.trans (h : Ch w w1 S) (k : Ch w1 w2 T) (hs : ∀ i, i < w.heap.size → T i → S i) : Ch w w2 S :=
  ⟨k.os.trans h.os, k.tape.trans h.tape, k.output.trans h.output, Nat.le_trans h.size k.size, fun i hi hn => (k.block i (Nat.lt_of_lt_of_le hi h.size) (fun ht => hn (hs i hi ht))).trans (h.block i hi hn)⟩
theorem Ch.same (h : Ch w w1 S) (k : Ch w1 w2 S) : Ch w w2 S := h.trans k (fun _ _ h => h)
theorem Ch.below {B : Nat} (h : Ch w w1 S) (hB : B ≤ w.heap.size) (hS : ∀ k, S k → B ≤ k) : Below B w w1 :=
  ⟨h.os, h.tape, h.output, h.size, fun k hk => h.block k (by omega) (fun hs => by have := hS k hs; omega)⟩
theorem Ch.alloc (h : Ch w w1 S) (o : Obj) : Ch w (w1.alloc o) S := h.trans (.of_below' ((Below.refl _ _).alloc (Nat.le_refl _) o) S) (fun _ _ h => h)
theorem Ch.drew (h : Ch w w1 S) : Ch w w1.drew S := ⟨h.os, h.tape, h.output, h.size, h.block⟩
theorem Ch.drewN (h : Ch w w1 S) (n : Nat) : Ch w (w1.drewN n) S := ⟨h.os, h.tape, h.output, h.size, h.block⟩
theorem Ch.setCell (h : Ch w w1 S) (p : Addr) (hp : p.block < w.heap.size → S p.block) (u : Value) : Ch w (w1.setCell p u) S :=
  h.trans (T := fun k => k = p.block) ⟨rfl, rfl, rfl, by simp [World.setCell], fun k _ hn => Below.heap_setCell w1 p u k hn⟩ (fun k hk he => by subst he; exact hp hk)
theorem Ch.blk (h : Ch w w1 S) {k : Nat} {o : Obj} (hb : w.heap[k]? = some o) (hn : ¬ S k) : w1.heap[k]? = some o := (h.block k (blk_lt hb) hn).trans hb
theorem Ch.cell (h : Ch w w1 S) {a : Addr} {v : Value} (hc : w.cell? a = some v) (hn : ¬ S a.block) : w1.cell? a = some v :=
  (World.cell?_of_block (h.block a.block (World.block_lt_of_cell? w a hc) hn)).trans hc
theorem Ch.own {base : Nat} {e : TypeId} {size n : Nat} {v : Value} {xs : List Value} (h : Ch w w1 S) (ho : w.ownsRow base e size v n xs) (hn : ∀ k, v.ownBlock = some k → ¬ S k) : w1.ownsRow base e size v n xs := by
  cases hv : v.ownBlock with
  | none =>
    refine ⟨ho.1, ?_⟩
    rcases ho.2 with h2 | ⟨g, cap, cur, rfl, _⟩
    · exact .inl h2
    · simp [Value.ownBlock] at hv
  | some k =>
    refine ⟨ho.1, ?_⟩
    rcases ho.2 with h2 | ⟨g, cap, cur, rfl, h1, h2, r⟩
    · exact .inl h2
    · simp [Value.ownBlock] at hv; subst hv
      exact .inr ⟨g, cap, cur, rfl, h1, h.blk h2 (hn g (by simp [Value.ownBlock])), r⟩
end

/-- v is a slice of the digits of n; they lie in the blocks of S. -/
def Nt (w : World) (v : Value) (n : Nat) (S : Nat → Prop) : Prop := Kd.V (Kd.int .u32) 84 w 0 S v (dg n)
section
variable {w w1 : World} {v : Value} {n b : Nat} {S T : Nat → Prop}
theorem Nt.of {base : Nat} (h : Kd.V (Kd.int .u32) 84 w base S v (dg n)) : Nt w v n S := h
theorem Nt.step (h : Nt w v n S) (hm : ∀ k, S k → k < w.heap.size → w1.heap[k]? = w.heap[k]?) : Nt w1 v n S := Kd.V_step h hm
theorem Nt.mono (h : Nt w v n S) (hs : ∀ k, S k → T k) : Nt w v n T := Kd.V_mono h hs
theorem Nt.bound (h : Nt w v n S) : Nt w v n (fun k => S k ∧ k < w.heap.size) := Kd.V_bound h
theorem Nt.ch (h : Nt w v n S) (hc : Ch w w1 T) (hn : ∀ k, S k → k < w.heap.size → ¬ T k) : Nt w1 v n S := h.step fun k hk hl => hc.block k hl (hn k hk hl)
theorem Nt.form (h : Nt w v n S) : ∃ A c, v = .slice A (dg n).length c ∧ (dg n).length ≤ c ∧ (Kd.int .u32).C w A (dg n).length (dg n) := by
  obtain ⟨A, c, rfl, hl, hf⟩ := h
  exact ⟨A, c, rfl, hl, Kd.F_now hf⟩

/-- The whole number n (not below 0) behind a pointer to block b; its digits lie in the blocks of S. -/
def It (w : World) (b n : Nat) (S : Nat → Prop) : Prop := ∃ v, w.heap[b]? = some (.cells #[.bool false, v] 66 (0, 0)) ∧ Nt w v n S
theorem It.ch (h : It w b n S) (hc : Ch w w1 T) (hb : ¬ T b) (hn : ∀ k, S k → k < w.heap.size → ¬ T k) : It w1 b n S := by
  obtain ⟨v, h1, h2⟩ := h
  exact ⟨v, hc.blk h1 hb, h2.ch hc hn⟩
theorem It.mono (h : It w b n S) (hs : ∀ k, S k → T k) : It w b n T := by
  obtain ⟨v, h1, h2⟩ := h
  exact ⟨v, h1, h2.mono hs⟩
theorem It.bound (h : It w b n S) : It w b n (fun k => S k ∧ k < w.heap.size) := by
  obtain ⟨v, h1, h2⟩ := h
  exact ⟨v, h1, h2.bound⟩
theorem It.lt (h : It w b n S) : b < w.heap.size := by
  obtain ⟨v, h1, _⟩ := h
  exact blk_lt h1
end

/-- v is a slice of the bytes l; they lie in the blocks of S. -/
def By (w : World) (v : Value) (l : List UInt8) (S : Nat → Prop) : Prop := Kd.V (Kd.int .u8) 5 w 0 S v (l.map fun x => (x.toNat : Int))
section
variable {w w1 : World} {v : Value} {l : List UInt8} {S T : Nat → Prop}
theorem By.step (h : By w v l S) (hm : ∀ k, S k → k < w.heap.size → w1.heap[k]? = w.heap[k]?) : By w1 v l S := Kd.V_step h hm
theorem By.mono (h : By w v l S) (hs : ∀ k, S k → T k) : By w v l T := Kd.V_mono h hs
theorem By.bound (h : By w v l S) : By w v l (fun k => S k ∧ k < w.heap.size) := Kd.V_bound h
theorem By.ch (h : By w v l S) (hc : Ch w w1 T) (hn : ∀ k, S k → k < w.heap.size → ¬ T k) : By w1 v l S := h.step fun k hk hl => hc.block k hl (hn k hk hl)
end

/-- A builder of the call's own in block b: it holds the bytes l in the row v. -/
def Bd (w : World) (base b : Nat) (v : Value) (l : List UInt8) : Prop :=
  (∃ p, (p = Value.pointer none ∨ p = .pointer (some ⟨b, 0, none⟩)) ∧ w.heap[b]? = some (.cells #[p, v] 59 (0, 0))) ∧ w.ownsRow base 5 1 v l.length (Lib.byteCells l)
/-- v' is v's row, or a new one. -/
def Nx (w : World) (v v' : Value) : Prop := v'.ownBlock = v.ownBlock ∨ ∃ r, v'.ownBlock = some r ∧ w.heap.size ≤ r
def BdPost (w : World) (base b : Nat) (v : Value) (l : List UInt8) (w' : World) : Prop :=
  ∃ v', Bd w' base b v' l ∧ w'.heap[b]? = some (.cells #[.pointer (some ⟨b, 0, none⟩), v'] 59 (0, 0)) ∧ Nx w v v' ∧ Ch w w' (fun k => k = b ∨ some k = v.ownBlock)
theorem Bd.ch {w w1 : World} {base b : Nat} {v : Value} {l : List UInt8} {T : Nat → Prop} (h : Bd w base b v l) (hc : Ch w w1 T) (hb : ¬ T b) (hn : ∀ k, v.ownBlock = some k → ¬ T k) : Bd w1 base b v l := by
  obtain ⟨⟨p, hp, h1⟩, h2⟩ := h
  exact ⟨⟨p, hp, hc.blk h1 hb⟩, hc.own h2 hn⟩
end Go.Proofs.YtiopgkdldkkonaaDoor

/-
  What the whole numbers' calls come to over the state of OID's String.
-/
import Derived.Test.YtiopgkdldkkonaaDoorS1
namespace Go.Proofs.YtiopgkdldkkonaaDoor
open Go.RowKit Go.Proofs.YtiopgkdldkkonaaDoorW.PrintWords Go.Proofs.YtiopgkdldkkonaaDoor.Num
set_option linter.unusedVariables false
set_option linter.unusedSimpArgs false
section
variable {W w w1 : World} {r cap : Nat} {v : Value} {out : List UInt8} {g acc : Nat}

theorem bg_lsh (h : Sn W w r cap v out) (hg : Bg W w r v g acc) (ha : acc < lim) :
    Calls Tryd.prog 27 #[.pointer (some ⟨g, 0, none⟩), .pointer (some ⟨g, 0, none⟩), .int .u64 7] w fun e w' => e = .returned (.pointer (some ⟨g, 0, none⟩)) ∧ Sn W w' r cap v out ∧ Bg W w' r v g (acc * 128) := by
  obtain ⟨x, y, hb⟩ := hg.blk
  obtain ⟨h0, S, hI, hS⟩ := hg
  exact (lsh7_int g g acc ha S x y w hb hI).mono fun e w' ⟨he, hp⟩ => ⟨he, h.step_big h0 hb hp⟩

theorem bg_new (h : Sn W w r cap v out) (hg : Bg W w r v g acc) (m : Nat) (hm : m < 9223372036854775808) :
    Calls Tryd.prog 29 #[.int .i64 m] w fun e w' => ∃ z T, e = .returned (.pointer (some ⟨z, 0, none⟩)) ∧ Sn W w' r cap v out ∧ Bg W w' r v g acc ∧ It w' z m T :=
  (newInt_any m hm w).mono fun e w' ⟨he, h1, h2⟩ => ⟨_, _, he, h.step_new h2, hg.step_new h h2, h1⟩

theorem bg_or {z m : Nat} {T : Nat → Prop} (h : Sn W w r cap v out) (hg : Bg W w r v g acc) (h0 : acc ≠ 0) (ha : acc < lim) (hM : acc % 128 = 0) (hm : m < 128) (hz : It w z m T) :
    Calls Tryd.prog 28 #[.pointer (some ⟨g, 0, none⟩), .pointer (some ⟨g, 0, none⟩), .pointer (some ⟨z, 0, none⟩)] w fun e w' => e = .returned (.pointer (some ⟨g, 0, none⟩)) ∧ Sn W w' r cap v out ∧ Bg W w' r v g (acc + m) := by
  obtain ⟨x, y, hb⟩ := hg.blk
  obtain ⟨hg0, S, hI, hS⟩ := hg
  exact (or_int g g z acc m h0 ha hM hm S T x y w hb hI hz).mono fun e w' ⟨he, hp⟩ => ⟨he, h.step_big hg0 hb hp⟩

theorem bg_sub {z m : Nat} {T : Nat → Prop} (h : Sn W w r cap v out) (hg : Bg W w r v g acc) (ha : acc < lim) (hm : m < acc) (hz : It w z m T) :
    Calls Tryd.prog 31 #[.pointer (some ⟨g, 0, none⟩), .pointer (some ⟨g, 0, none⟩), .pointer (some ⟨z, 0, none⟩)] w fun e w' => e = .returned (.pointer (some ⟨g, 0, none⟩)) ∧ Sn W w' r cap v out ∧ Bg W w' r v g (acc - m) := by
  obtain ⟨x, y, hb⟩ := hg.blk
  obtain ⟨hg0, S, hI, hS⟩ := hg
  exact (sub_int g g z acc m ha hm S T x y w hb hI hz).mono fun e w' ⟨he, hp⟩ => ⟨he, h.step_big hg0 hb hp⟩

theorem bg_set (h : Sn W w r cap v out) (h0 : W.heap.size ≤ g) {x y : Value} (hb : w.heap[g]? = some (.cells #[x, y] 66 (0, 0))) (u : Nat) (hu : u < 18446744073709551616) :
    Calls Tryd.prog 26 #[.pointer (some ⟨g, 0, none⟩), .int .u64 u] w fun e w' => e = .returned (.pointer (some ⟨g, 0, none⟩)) ∧ Sn W w' r cap v out ∧ Bg W w' r v g u :=
  (setUint64_any g u hu x y w hb).mono fun e w' ⟨he, hp⟩ => ⟨he, h.step_big h0 hb hp⟩

theorem bg_append (h : Sn W w r cap v out) (hg : Bg W w r v g acc) (h0 : acc ≠ 0) (ha : acc < lim) :
    Calls Tryd.prog 32 #[.pointer (some ⟨g, 0, none⟩), .slice (some ⟨r, 0, none⟩) 0 cap, .int .i64 10] w fun e w' => ∃ r2 cap2, e = .returned (.slice (some ⟨r2, 0, none⟩) (Lib.decDigits acc).length cap2) ∧
      w'.ownsRow W.heap.size 5 1 (.slice (some ⟨r2, 0, none⟩) (Lib.decDigits acc).length cap2) (Lib.decDigits acc).length (Lib.byteCells (Lib.decDigits acc)) ∧ Sn W w' r2 cap2 v out ∧ Bg W w' r2 v g acc := by
  obtain ⟨hg0, S, hI, hS⟩ := id hg
  refine (append_int g acc h0 ha S W.heap.size r cap w hI h.ob (Nat.le_of_lt h.sb_lt) h.cap).mono ?_
  rintro e w' ⟨r2, cap2, he, ho, hc, hr, hcap⟩
  exact ⟨r2, cap2, he, ho, h.step_num hc ho hr hcap, hg.step h hc (fun k hk => .inr (.inl hk)) (Nx.refl w v) hr⟩

/-- The builder written: the number stays. -/
theorem Bg.bd {v1 : Value} (hg : Bg W w r v g acc) (h : Sn W w r cap v out) (hn : Nx w v v1) (hc : Ch w w1 (fun k => k = W.heap.size ∨ some k = v.ownBlock)) : Bg W w1 r v1 g acc :=
  hg.step h hc (fun k hk => hk.elim .inl (fun e => .inr (.inr e.symm))) hn (.inl rfl)
/-- A number's block that is there stays there. -/
theorem Sn.blk_bd {x y : Value} (h : Sn W w r cap v out) (hb : w.heap[g]? = some (.cells #[x, y] 66 (0, 0))) (hc : Ch w w1 (fun k => k = W.heap.size ∨ some k = v.ownBlock)) : w1.heap[g]? = some (.cells #[x, y] 66 (0, 0)) :=
  hc.blk hb (fun hk => by
    obtain ⟨a, _, b⟩ := h.g_ne hb
    rcases hk with hk | hk
    · exact a hk
    · exact b hk.symm)
theorem Sn.blk_num {x y : Value} (h : Sn W w r cap v out) (hb : w.heap[g]? = some (.cells #[x, y] 66 (0, 0))) (hc : Ch w w1 (fun k => k = r)) : w1.heap[g]? = some (.cells #[x, y] 66 (0, 0)) :=
  hc.blk hb (fun hk => (h.g_ne hb).2.1 hk)
/-- The number's pointer where no number is under way: nil, or to a number's block. -/
def Idle (W w : World) (s7 : Value) : Prop := s7 = .pointer none ∨ ∃ g x y, s7 = .pointer (some ⟨g, 0, none⟩) ∧ W.heap.size ≤ g ∧ w.heap[g]? = some (.cells #[x, y] 66 (0, 0))
theorem Idle.bd {s7 : Value} (hi : Idle W w s7) (h : Sn W w r cap v out) (hc : Ch w w1 (fun k => k = W.heap.size ∨ some k = v.ownBlock)) : Idle W w1 s7 :=
  hi.imp id fun ⟨g, x, y, h1, h2, h3⟩ => ⟨g, x, y, h1, h2, h.blk_bd h3 hc⟩
theorem Idle.num {s7 : Value} (hi : Idle W w s7) (h : Sn W w r cap v out) (hc : Ch w w1 (fun k => k = r)) : Idle W w1 s7 :=
  hi.imp id fun ⟨g, x, y, h1, h2, h3⟩ => ⟨g, x, y, h1, h2, h.blk_num h3 hc⟩
theorem Bg.idle (hg : Bg W w r v g acc) : Idle W w (.pointer (some ⟨g, 0, none⟩)) := by
  obtain ⟨x, y, hb⟩ := hg.blk
  exact .inr ⟨g, x, y, rfl, hg.1, hb⟩
end
end Go.Proofs.YtiopgkdldkkonaaDoor

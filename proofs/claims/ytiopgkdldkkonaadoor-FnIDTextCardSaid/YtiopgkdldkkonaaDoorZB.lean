/-
  WALKS: strings.Builder of the call's own, with the exact blocks that each method writes: copyCheck, WriteByte, WriteString (where there is room), Write.
-/
import Derived.Test.YtiopgkdldkkonaaDoorZK
import Derived.WalkKit
import Derived.OwnWalk
import Derived.KernelRfl
import Derived.Laws.Externs
import Derived.Lib.Builder
import Derived.Lib.AppendStr
import Derived.Maps.AppendAt
import Derived.Outline
namespace Go.Proofs.YtiopgkdldkkonaaDoor
open Go.RowKit Go.Proofs.YtiopgkdldkkonaaDoorW.PrintWords
set_option linter.unusedVariables false

theorem info59 : ((Tryd.prog.info? 59).map (·.size)) = some 2 := by kernel_rfl
theorem info5 : (Tryd.prog.info? 5).map (fun i => (i.zero, i.size, i.bytes)) = some (some (.int .u8 0), 1, 1) := by kernel_rfl

set_option maxRecDepth 100000 in
theorem copyCheck_fresh (b : Nat) (v : Value) (w : World) (hb : w.heap[b]? = some (.cells #[.pointer none, v] 59 (0, 0))) :
    Calls Tryd.prog 39 #[.pointer (some ⟨b, 0, none⟩)] w fun e w' => e = .returned (.tuple #[]) ∧ w' = w.setCell ⟨b, 0, none⟩ (.pointer (some ⟨b, 0, none⟩)) := by
  obtain ⟨j, hj, hjs⟩ := Option.map_eq_some_iff.1 info59
  have h0 : w.cell? ⟨b, 0, none⟩ = some (.pointer none) := by rw [Lib.cell_of_heap hb]; rfl
  have hfz : w.frozen? ⟨b, 0, none⟩ = false := Lib.frozen_of_heap hb 0
  have hsh : w.shape? b = some (59, 2) := by simp [World.shape?, hb]
  clear hb
  go_enter Tryd.func39, Tryd.ntmps39
  go_wp2
  rw [Lib.run_to_unsafe w ⟨b, 0, none⟩ Tryd.underlying57 Tryd.underlying94 hj (by rw [hjs]; decide) hsh (Nat.zero_lt_succ 1)]
  simp only [Result.andThen]
  rw [Oper.upon_value]
  go_wp2
  rw [run_callFunc_extern Tryd.func55 (by kernel_rfl) (by kernel_rfl) (by kernel_rfl) (e := Extern.AbiNoEscape.same) (by kernel_rfl)]
  rw [Lib.run_noEscape]
  simp only [Result.andThen]
  rw [Oper.upon_value]
  go_wp2
  rw [Lib.run_from_unsafe w ⟨b, 0, none⟩ Tryd.underlying94 Tryd.underlying57 hj hsh (by kernel_rfl)]
  simp only [Result.andThen]
  rw [Oper.upon_value]
  go_wp2
  go_end0
  exact ⟨rfl, rfl⟩

set_option maxRecDepth 100000 in
theorem copyCheck_used (b : Nat) (v : Value) (w : World) (hb : w.heap[b]? = some (.cells #[.pointer (some ⟨b, 0, none⟩), v] 59 (0, 0))) :
    Calls Tryd.prog 39 #[.pointer (some ⟨b, 0, none⟩)] w fun e w' => e = .returned (.tuple #[]) ∧ w' = w := by
  obtain ⟨j, hj, _⟩ := Option.map_eq_some_iff.1 info59
  have h0 : w.cell? ⟨b, 0, none⟩ = some (.pointer (some ⟨b, 0, none⟩)) := by rw [Lib.cell_of_heap hb]; rfl
  clear hb
  go_enter Tryd.func39, Tryd.ntmps39
  go_wp2
  rw [Lib.run_neq_ptr_same w _ Tryd.underlying57 hj]
  go_wp2
  go_end0
  exact ⟨rfl, rfl⟩

theorem ne_own {w : World} {base g n : Nat} {v : Value} {xs : List Value} {cs : Array Value} {T : Nat} (ho : w.ownsRow base 5 1 v n xs) (hb : w.heap[g]? = some (.cells cs T (0, 0))) (hT : T ≠ 5) : v.ownBlock ≠ some g :=
  Lib.ownBlock_ne ho hb hT

theorem copyCheck_any (base b : Nat) (v : Value) (l : List UInt8) (w : World) (h : Bd w base b v l) :
    Calls Tryd.prog 39 #[.pointer (some ⟨b, 0, none⟩)] w fun e w' => e = .returned (.tuple #[]) ∧ w'.heap[b]? = some (.cells #[.pointer (some ⟨b, 0, none⟩), v] 59 (0, 0)) ∧ w'.ownsRow base 5 1 v l.length (Lib.byteCells l) ∧ Ch w w' (fun k => k = b) ∧ w'.heap.size = w.heap.size := by
  obtain ⟨⟨p, hp, hb⟩, ho⟩ := h
  rcases hp with rfl | rfl
  · refine (copyCheck_fresh b v w hb).mono ?_
    rintro e w' ⟨rfl, rfl⟩
    have hc : Ch w (w.setCell ⟨b, 0, none⟩ (.pointer (some ⟨b, 0, none⟩))) (fun k => k = b) := (Ch.refl w (fun k => k = b)).setCell ⟨b, 0, none⟩ (fun _ => rfl) _
    refine ⟨rfl, ?_, hc.own ho (fun k hk e => ?_), hc, by simp [World.setCell]⟩
    · simp [World.setCell, Array.getElem?_modify, hb]
    · subst e; exact ne_own ho hb (by decide) hk
  · refine (copyCheck_used b v w hb).mono ?_
    rintro e w' ⟨rfl, rfl⟩
    exact ⟨rfl, hb, ho, Ch.refl _ _, rfl⟩

theorem put_bd {w : World} {base b : Nat} {v v' : Value} {l : List UInt8} (hb : w.heap[b]? = some (.cells #[.pointer (some ⟨b, 0, none⟩), v] 59 (0, 0))) (ho : w.ownsRow base 5 1 v' l.length (Lib.byteCells l)) :
    Bd (w.setCell ⟨b, 1, none⟩ v') base b v' l ∧ (w.setCell ⟨b, 1, none⟩ v').heap[b]? = some (.cells #[.pointer (some ⟨b, 0, none⟩), v'] 59 (0, 0)) := by
  have h1 : (w.setCell ⟨b, 1, none⟩ v').heap[b]? = some (.cells #[.pointer (some ⟨b, 0, none⟩), v'] 59 (0, 0)) := by simp [World.setCell, Array.getElem?_modify, hb]
  have hc : Ch w (w.setCell ⟨b, 1, none⟩ v') (fun k => k = b) := (Ch.refl w (fun k => k = b)).setCell ⟨b, 1, none⟩ (fun _ => rfl) _
  exact ⟨⟨⟨_, .inr rfl, h1⟩, hc.own ho (fun k hk e => by subst e; exact ne_own ho hb (by decide) hk)⟩, h1⟩

/-- What an append to the builder's row, laid into the builder, comes to. -/
theorem bd_post {w w1 w2 : World} {base b : Nat} {v v' : Value} {l l' : List UInt8} (hb1 : w1.heap[b]? = some (.cells #[.pointer (some ⟨b, 0, none⟩), v] 59 (0, 0))) (ho1 : w1.ownsRow base 5 1 v l.length (Lib.byteCells l))
    (hc1 : Ch w w1 (fun k => k = b)) (hs1 : w.heap.size ≤ w1.heap.size) (hg : w1.grownBy w2 v.ownBlock) (ho2 : w2.ownsRow base 5 1 v' l'.length (Lib.byteCells l')) (hat : v'.ownBlock = v.ownBlock ∨ ∃ r, v'.ownBlock = some r ∧ w1.heap.size ≤ r) :
    BdPost w base b v l' (w2.setCell ⟨b, 1, none⟩ v') := by
  have hb2 : w2.heap[b]? = some (.cells #[.pointer (some ⟨b, 0, none⟩), v] 59 (0, 0)) := (hg.block b (blk_lt hb1) (fun e => ne_own ho1 hb1 (by decide) e.symm)).trans hb1
  obtain ⟨h1, h2⟩ := put_bd hb2 ho2
  refine ⟨v', h1, h2, ?_, ?_⟩
  · rcases hat with hat | ⟨r, hr, hle⟩
    · exact .inl hat
    · exact .inr ⟨r, hr, Nat.le_trans hs1 hle⟩
  · refine Ch.setCell ?_ ⟨b, 1, none⟩ (fun _ => .inl rfl) _
    exact (hc1.mono (fun k _ h => .inl h)).trans (T := fun k => k = b ∨ some k = v.ownBlock) (Ch.of_grown hg (fun k hk => .inr hk.symm)) (fun _ _ h => h)

set_option maxHeartbeats 1000000 in
set_option maxRecDepth 100000 in
theorem writeByte_any (base b : Nat) (v : Value) (l : List UInt8) (c : UInt8) (w : World) (h : Bd w base b v l) (hbase : base ≤ w.heap.size) (hl : l.length + 1 ≤ 140737488355328) :
    Calls Tryd.prog 25 #[.pointer (some ⟨b, 0, none⟩), .int .u8 c.toNat] w fun e w' => e = .returned .nilIface ∧ BdPost w base b v (l ++ [c]) w' := by
  obtain ⟨i0, hi, hz0, hz1, hz2⟩ := info_parts info5
  go_enter Tryd.func25, Tryd.ntmps25
  go_wp2_with fail
  refine (copyCheck_any base b v l w h).mono ?_
  rintro e w1 ⟨rfl, hb1, ho1, hc1, hs1⟩
  have c1 : w1.cell? ⟨b, 1, none⟩ = some v := by rw [Lib.cell_of_heap hb1]; rfl
  have c0 : w1.cell? ⟨b, 0, none⟩ = some (.pointer (some ⟨b, 0, none⟩)) := by rw [Lib.cell_of_heap hb1]; rfl
  have HB1 := Aside0.mk hb1
  have HC1 := Aside0.mk hc1
  have HO1 := Aside0.mk ho1
  have hs1' : w.heap.size ≤ w1.heap.size := by omega
  clear hb1 hc1 h hs1
  go_wp2_with (at_builtin; refine wpList_append_own_at _ rfl _ _ 23 rfl base 5 i0 (.int .u8 0) 1 1 Tryd.underlying23 hi hz0 hz1 hz2 rfl (by decide) _ _ _ rfl (ho1.alloc _) ⟨w1.heap.size, 0, none⟩ 1 1 [.int .u8 c.toNat] rfl rfl (cell_one_new _ _ _) (by intro u hu; simp at hu; subst hu; rfl) (by unfold maxLen; omega) (by omega) (by simp; omega) ?_)
  intro v' w2 ho2 hg _ hat
  have hg' : w1.grownBy w2 v.ownBlock := World.grownBy.trans (World.grownBy_alloc w1 _ _) hg
  have hl' : (l ++ [c]).length = l.length + 1 := by simp
  have hcl : Lib.byteCells (l ++ [c]) = Lib.byteCells l ++ [.int .u8 c.toNat] := by rw [Lib.byteCells_append]; rfl
  have ho2' : w2.ownsRow base 5 1 v' (l ++ [c]).length (Lib.byteCells (l ++ [c])) := by rw [hl', hcl]; exact ho2
  have hat' : v'.ownBlock = v.ownBlock ∨ ∃ r, v'.ownBlock = some r ∧ w1.heap.size ≤ r := hat.imp id (fun e => ⟨_, e, by simp⟩)
  have HP := Aside0.mk (bd_post HB1.out HO1.out HC1.out hs1' hg' ho2' hat')
  have hb2 : w2.heap[b]? = some (.cells #[.pointer (some ⟨b, 0, none⟩), v] 59 (0, 0)) := (hg'.block b (blk_lt HB1.out) (fun e => ne_own HO1.out HB1.out (by decide) e.symm)).trans HB1.out
  have d1 : w2.cell? ⟨b, 1, none⟩ = some v := by rw [Lib.cell_of_heap hb2]; rfl
  have f1 : w2.frozen? ⟨b, 1, none⟩ = false := Lib.frozen_of_heap hb2 1
  obtain ⟨A, n', cap, rfl⟩ : ∃ A n' cap, v' = .slice A n' cap := by
    rcases ho2.2 with ⟨hv, _⟩ | ⟨g, cap, cur, hv, _⟩
    · exact ⟨_, _, _, hv⟩
    · exact ⟨_, _, _, hv⟩
  clear ho1 ho2 hg hat hg' hl' hcl ho2' hat' hb2 hs1'
  go_wp2
  go_ret
  exact ⟨rfl, HP.out⟩

/-- An append whose run is known. -/
theorem wpList_append_run {P : Program} {ops : Array Oper} {rest : List Oper} {o : Oper} {a : Act} {Q : Exit → Act → World → Prop} (hgd : o.guard = none) (s x : Operand) (t u : TypeId)
    (ho : o.op = .call { callee := .builtin .append, args := #[s, x], argTypes := #[t, u] }) (v vx v' : Value) (w w' : World) (hs : a.eval s = v) (hx : a.eval x = vx)
    (hr : (Builtin.append_ #[t, u] o.type #[v, vx]).run P w = .ok v' w') (h : wpList P ops Q rest (a.put o.dst v') w') : wpList P ops Q (o :: rest) a w := by
  refine wpList_plain hgd fun K hK => ?_
  unfold Oper.wp execOp
  simp only [ho, resolve, invoke, builtin, Sem.run_bind, Sem.run_pure, Result.andThen_ok, List.map_toArray, List.map_cons, List.map_nil, hs, hx, hr]
  exact hK _ _ h

theorem strCells_mk (l : List UInt8) : Lib.strCells ⟨l.toArray⟩ = Lib.byteCells l := by simp [Lib.strCells, Lib.byteCells]

set_option maxHeartbeats 1000000 in
set_option maxRecDepth 100000 in
/-- WriteString, where the builder's row has room. -/
theorem writeString_room (base b r cap : Nat) (l s : List UInt8) (w : World) (h : Bd w base b (.slice (some ⟨r, 0, none⟩) l.length cap) l) (hbase : base ≤ w.heap.size) (hroom : l.length + s.length ≤ cap) :
    Calls Tryd.prog 30 #[.pointer (some ⟨b, 0, none⟩), .string ⟨s.toArray⟩] w fun e w' => e = .returned (.tuple #[.int .i64 s.length, .nilIface]) ∧ BdPost w base b (.slice (some ⟨r, 0, none⟩) l.length cap) (l ++ s) w' := by
  obtain ⟨i0, hi, hz0, hz1, hz2⟩ := info_parts info5
  have hsz : (⟨s.toArray⟩ : ByteArray).size = s.length := by simp [ByteArray.size]
  go_enter Tryd.func30, Tryd.ntmps30
  go_wp2_with fail
  refine (copyCheck_any base b _ l w h).mono ?_
  rintro e w1 ⟨rfl, hb1, ho1, hc1, hs1⟩
  have c1 : w1.cell? ⟨b, 1, none⟩ = some (.slice (some ⟨r, 0, none⟩) l.length cap) := by rw [Lib.cell_of_heap hb1]; rfl
  have c0 : w1.cell? ⟨b, 0, none⟩ = some (.pointer (some ⟨b, 0, none⟩)) := by rw [Lib.cell_of_heap hb1]; rfl
  obtain ⟨cur, hr, hcm, hcs, htk⟩ : ∃ cur, w1.heap[r]? = some (.cells cur 5 (0, 0)) ∧ cap ≤ maxLen ∧ cur.size = cap ∧ cur.toList.take l.length = Lib.byteCells l := by
    rcases ho1.2 with ⟨hv, _⟩ | ⟨g, cap', cur, hv, _, hr, _, hcm, hcs, htk⟩
    · cases hv
    · injection hv with h1 h2 h3
      injection h1 with h1
      injection h1 with h1 _ _
      subst h1; subst h3
      exact ⟨cur, hr, hcm, by simpa using hcs, by simpa using htk⟩
  have hbr : base ≤ r ∧ r < w1.heap.size := ho1.lt r rfl
  have hrun := fun W (hW : W.heap[r]? = some (.cells cur 5 (0, 0))) => Lib.run_append_room_string (P := Tryd.prog) W 23 9 23 5 i0 Tryd.underlying23 Tryd.underlying9 hi hz1 r l.length cap cur hW ⟨s.toArray⟩ (by rw [hsz]; exact hroom) (by rw [hsz]; omega)
  have hrun1 := hrun w1 hr
  rw [hsz, strCells_mk] at hrun1
  obtain ⟨w2, hw2⟩ : ∃ w2, w2 = w1.setRow r (cur.toList.take l.length ++ Lib.byteCells s ++ cur.toList.drop (l.length + s.length)).toArray := ⟨_, rfl⟩
  rw [← hw2] at hrun1
  have hr2 : w2.heap[r]? = some (.cells (cur.toList.take l.length ++ Lib.byteCells s ++ cur.toList.drop (l.length + s.length)).toArray 5 (0, 0)) := by rw [hw2]; exact setRow_heap w1 r cur _ 5 (0, 0) hr
  have hg : w1.grownBy w2 (some r) := by rw [hw2]; exact ⟨rfl, rfl, rfl, by simp, fun k _ hk => setRow_other w1 r k _ (fun e => hk (by rw [e]))⟩
  have hl' : (l ++ s).length = l.length + s.length := by simp
  have hcl : Lib.byteCells (l ++ s) = Lib.byteCells l ++ Lib.byteCells s := Lib.byteCells_append _ _
  have ho2 : w2.ownsRow base 5 1 (.slice (some ⟨r, 0, none⟩) (l.length + s.length) cap) (l ++ s).length (Lib.byteCells (l ++ s)) := by
    refine ⟨by simp [Lib.byteCells], .inr ⟨r, cap, _, by rw [hl'], hbr.1, hr2, by omega, hcm, ?_, ?_⟩⟩
    · have : cur.toList.length = cap := by simpa using hcs
      simp [Lib.byteCells]; omega
    · rw [htk, Nat.mul_one, hl', hcl]
      rw [List.take_left' (by simp [Lib.byteCells])]
  have hs1' : w.heap.size ≤ w1.heap.size := by omega
  have HP := Aside0.mk (bd_post hb1 ho1 hc1 hs1' hg ho2 (.inl rfl))
  have hb2 : w2.heap[b]? = some (.cells #[.pointer (some ⟨b, 0, none⟩), .slice (some ⟨r, 0, none⟩) l.length cap] 59 (0, 0)) := (hg.block b (blk_lt hb1) (fun e => ne_own ho1 hb1 (by decide) e.symm)).trans hb1
  have d1 : w2.cell? ⟨b, 1, none⟩ = some (.slice (some ⟨r, 0, none⟩) l.length cap) := by rw [Lib.cell_of_heap hb2]; rfl
  have f1 : w2.frozen? ⟨b, 1, none⟩ = false := Lib.frozen_of_heap hb2 1
  have hnn : (Builtin.append_ #[23, 9] 23 #[.slice (some ⟨r, 0, none⟩) l.length cap, .string ⟨s.toArray⟩]).run Tryd.prog w1 = .ok (.slice (some ⟨r, 0, none⟩) (l.length + s.length) cap) w2 := hrun1
  clear hw2 hrun hrun1 hr hr2 hg hl' hcl ho2 hs1' hb2 hb1 ho1 hc1 h hs1 htk hcs hbr hcm hi hz0 hz1 hz2
  have HS := Aside0.mk hsz
  clear hsz
  go_wp2_with (at_builtin; refine wpList_append_run rfl (.tmp 12) (.tmp 13) 23 9 rfl (.slice (some ⟨r, 0, none⟩) l.length cap) (.string ⟨s.toArray⟩) _ w1 w2 rfl rfl hnn ?_)
  go_wp2
  go_ret2
  exact ⟨rfl, HP.out⟩

set_option maxHeartbeats 1000000 in
set_option maxRecDepth 100000 in
/-- Write of bytes that lie in another row. -/
theorem write_any (base b : Nat) (v : Value) (l s : List UInt8) (ad : Addr) (c : Nat) (w : World) (h : Bd w base b v l) (hbase : base ≤ w.heap.size) (hl : l.length + s.length ≤ 140737488355328)
    (had : ad.block ≠ b) (hs : ∀ j u, (Lib.byteCells s)[j]? = some u → w.cell? (ad.add j) = some u) :
    Calls Tryd.prog 33 #[.pointer (some ⟨b, 0, none⟩), .slice (some ad) s.length c] w fun e w' => e = .returned (.tuple #[.int .i64 s.length, .nilIface]) ∧ BdPost w base b v (l ++ s) w' := by
  obtain ⟨i0, hi, hz0, hz1, hz2⟩ := info_parts info5
  have HS := Aside0.mk hs
  have HAD := Aside0.mk had
  clear hs had
  go_enter Tryd.func33, Tryd.ntmps33
  go_wp2_with fail
  refine (copyCheck_any base b v l w h).mono ?_
  rintro e w1 ⟨rfl, hb1, ho1, hc1, hs1⟩
  have c1 : w1.cell? ⟨b, 1, none⟩ = some v := by rw [Lib.cell_of_heap hb1]; rfl
  have c0 : w1.cell? ⟨b, 0, none⟩ = some (.pointer (some ⟨b, 0, none⟩)) := by rw [Lib.cell_of_heap hb1]; rfl
  have HN := Aside0.mk (show ∀ j u, (Lib.byteCells s)[j]? = some u → w1.cell? (ad.add j) = some u from fun j u hj => hc1.cell (HS.out j u hj) (by rw [show (ad.add j).block = ad.block from by unfold Addr.add; split <;> rfl]; exact HAD.out))
  have HB1 := Aside0.mk hb1
  have HC1 := Aside0.mk hc1
  have HO1 := Aside0.mk ho1
  have hs1' : w.heap.size ≤ w1.heap.size := by omega
  clear hb1 hc1 h hs1
  have hlb : (Lib.byteCells s).length = s.length * 1 := by simp [Lib.byteCells]
  have HLB := Aside0.mk hlb
  clear hlb
  go_wp2_with (at_builtin; refine wpList_append_own_at _ rfl (.tmp 12) (.tmp 13) 23 rfl base 5 i0 (.int .u8 0) 1 1 Tryd.underlying23 hi hz0 hz1 hz2 rfl (by decide) v l.length (Lib.byteCells l) rfl HO1.out ad s.length c (Lib.byteCells s) rfl HLB.out HN.out (by intro u hu; simp only [Lib.byteCells, List.mem_map] at hu; obtain ⟨_, _, rfl⟩ := hu; rfl) (by unfold maxLen; omega) (by omega) (by omega) ?_)
  intro v' w2 ho2 hg _ hat
  have hl' : (l ++ s).length = l.length + s.length := by simp
  have hcl : Lib.byteCells (l ++ s) = Lib.byteCells l ++ Lib.byteCells s := Lib.byteCells_append _ _
  have ho2' : w2.ownsRow base 5 1 v' (l ++ s).length (Lib.byteCells (l ++ s)) := by rw [hl', hcl]; exact ho2
  have hat' : v'.ownBlock = v.ownBlock ∨ ∃ r, v'.ownBlock = some r ∧ w1.heap.size ≤ r := hat.imp id (fun e => ⟨_, e, Nat.le_refl _⟩)
  have HP := Aside0.mk (bd_post HB1.out HO1.out HC1.out hs1' hg ho2' hat')
  have hb2 : w2.heap[b]? = some (.cells #[.pointer (some ⟨b, 0, none⟩), v] 59 (0, 0)) := (hg.block b (blk_lt HB1.out) (fun e => ne_own HO1.out HB1.out (by decide) e.symm)).trans HB1.out
  have d1 : w2.cell? ⟨b, 1, none⟩ = some v := by rw [Lib.cell_of_heap hb2]; rfl
  have f1 : w2.frozen? ⟨b, 1, none⟩ = false := Lib.frozen_of_heap hb2 1
  obtain ⟨A, n', cap, rfl⟩ : ∃ A n' cap, v' = .slice A n' cap := by
    rcases ho2.2 with ⟨hv, _⟩ | ⟨g, cap, cur, hv, _⟩
    · exact ⟨_, _, _, hv⟩
    · exact ⟨_, _, _, hv⟩
  clear ho1 ho2 hg hat hl' hcl ho2' hat' hb2 hs1'
  go_wp2
  go_ret2
  exact ⟨rfl, HP.out⟩

end Go.Proofs.YtiopgkdldkkonaaDoor

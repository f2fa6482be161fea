import Derived.Test.Qxb6001094aE4
import Derived.Laws.CopyOwn
import Derived.Lib.SliceRun
namespace Go.Proofs.Qxb6001094a
open Go.RowKit Go.Deep

/-- copy over a whole row of ours, whatever the element's size. -/
theorem run_copy_whole {P : Program} (w : World) (dT sT ty elem : TypeId) (sz g n dCap : Nat) (a : Addr) (sCap : Nat) (cur : Array Value) (t : TypeId) (cs : List Value)
    (hu : P.underlying dT = some (.slice elem)) (hs : (P.info? elem).map (·.size) = some sz)
    (hg : w.heap[g]? = some (.cells cur t (0, 0))) (hn : cs.length = n * sz) (hc : cur.size = n * sz)
    (hsrc : ∀ j v, cs[j]? = some v → w.cell? (a.add j) = some v) (h1 : ∀ v ∈ cs, v.oneCell' = true) :
    (Builtin.copy_ #[dT, sT] ty #[.slice (some ⟨g, 0, none⟩) n dCap, .slice (some a) n sCap]).run P w = .ok (goInt n) (w.setRow g cs.toArray) := by
  have hl := run_loadCells_list (P := P) w a cs hsrc
  have hst := run_storeCells_at P g 0 t cs 0 cur w hg (by omega) h1
  have e : (cur.toList.take (0 + 0) ++ cs ++ cur.toList.drop (0 + 0 + cs.length)) = cs := by
    rw [List.drop_eq_nil_of_le (by simp; omega)]; simp
  rw [e] at hst
  cases hq : P.info? elem with
  | none => simp [hq] at hs
  | some i =>
    have hi : i.size = sz := by simpa [hq] using hs
    simp [Builtin.copy_, run_underlying hu, Builtin.lenOf, Builtin.firstCells, sizeOf, typeInfo, hq, hi, ← hn, hl, hst]

theorem wpList_copy_whole {P : Program} {w : World} {ops : Array Oper} {rest : List Oper} {o : Oper} {a : Act} {Q : Exit → Act → World → Prop} (hgd : o.guard = none) (d s : Operand) (dT sT : TypeId)
    (ho : o.op = .call { callee := .builtin .copy, args := #[d, s], argTypes := #[dT, sT] }) (elem : TypeId) (sz : Nat) (hu : P.underlying dT = some (.slice elem)) (hsz : (P.info? elem).map (·.size) = some sz)
    (g n dCap : Nat) (ad : Addr) (sCap : Nat) (hd : a.eval d = .slice (some ⟨g, 0, none⟩) n dCap) (hs : a.eval s = .slice (some ad) n sCap)
    (cur : Array Value) (t : TypeId) (hg : w.heap[g]? = some (.cells cur t (0, 0))) (cs : List Value) (hn : cs.length = n * sz) (hc : cur.size = n * sz)
    (hsrc : ∀ j v, cs[j]? = some v → w.cell? (ad.add j) = some v) (h1 : ∀ v ∈ cs, v.oneCell' = true)
    (h : wpList P ops Q rest (a.put o.dst (goInt n)) (w.setRow g cs.toArray)) : wpList P ops Q (o :: rest) a w := by
  refine wpList_plain hgd fun K hK => ?_
  have hrun := run_copy_whole (P := P) w dT sT o.type elem sz g n dCap ad sCap cur t cs hu hsz hg hn hc hsrc h1
  unfold Oper.wp
  simp [execOp, ho, resolve, invoke, builtin, hd, hs, hrun, Result.andThen]
  exact hK _ _ h

theorem info29s : (Try.prog.info? 29).map (·.size) = some 5 := by kernel_rfl

theorem ownEv_of_block {w : World} {t : TypeId} {g : Nat} {l : List E5} (hl : l.length ≤ 131072) (h : w.heap[g]? = some (.cells (flat l).toArray t)) : OwnEv w t g l.length l := by
  refine ⟨flat_length l, .inr ⟨g, l.length, _, rfl, Nat.zero_le _, h, Nat.le_refl _, by unfold maxLen; omega, by simp [flat_length], ?_⟩⟩
  simp [List.take_of_length_le, flat_length]

theorem evsIn_src {w : World} {a : Addr} {l : List E5} (h : EvsIn w (some a) l) (j : Nat) (v : Value) (hj : (flat l)[j]? = some v) : w.cell? (a.add j) = some v := by
  have hlt : j < l.length * 5 := by rw [← flat_length]; exact (List.getElem?_eq_some_iff.1 hj).1
  rcases h with h | ⟨b, o, ha, h⟩
  · rw [h] at hlt; simp at hlt
  cases ha
  rw [WideShapes.add_plain]
  have e : j = j / 5 * 5 + j % 5 := by omega
  have h5 : j % 5 < 5 := by omega
  have hi : j / 5 < l.length := by omega
  obtain ⟨f0, f1, f2, f3, f4⟩ := h (j / 5) hi
  rw [e, flat_get l _ _ hi h5] at hj
  rw [e]
  generalize j % 5 = r at h5 hj
  rw [← Nat.add_assoc]
  match r, h5, hj with
  | 0, _, hj => simp [cells5] at hj; subst hj; exact f0
  | 1, _, hj => simp [cells5] at hj; subst hj; exact f1
  | 2, _, hj => simp [cells5] at hj; subst hj; exact f2
  | 3, _, hj => simp [cells5] at hj; subst hj; exact f3
  | 4, _, hj => simp [cells5] at hj; subst hj; exact f4

set_option maxHeartbeats 400000 in
theorem cloneEvs_some (a : Addr) (c0 : Nat) (l : List E5) (w : World) (hn : l.length ≤ 131072) (hA : EvsIn w (some a) l) :
    Calls Try.prog 13 #[.slice (some a) l.length c0] w fun e w' => e = .returned (.slice (some ⟨w.heap.size, 0, none⟩) l.length l.length) ∧
      OwnEv w' 29 w.heap.size l.length l ∧ Below w.heap.size w w' := by
  have q22 : ∀ (w : World) (a : Option Addr) (n c n' c' : Nat), (binOp .eql 22 (.slice a n c) (.slice none n' c')).run Try.prog w = .ok (.bool a.isNone) w := fun w a n c n' c' => Lib.run_eql_slice_nil w _ _ a n c n' c' Try.underlying22
  obtain ⟨i0, hi, hz0, hz1, hz2⟩ := info_parts info29
  have HI : Hid (Try.prog.info? 29 = some i0 ∧ i0.zero = some (.agg #[.int .i64 0, .int .i64 0, .int .i64 0, .int .i64 0, .int .i64 0]) ∧ i0.size = 5 ∧ i0.bytes = 40) := ⟨hi, hz0, hz1, hz2⟩
  have HBY : Hid (i0.bytes * l.length ≤ 281474976710656) := show _ ≤ _ by rw [hz2]; omega
  have HA : Hid (EvsIn w (some a) l) := hA
  clear hA hi hz0 hz1 hz2
  go_enter Try.func13, Try.ntmps13
  go_upto_region 4 with (at_make; go_must (refine wpList_make_full _ rfl (.tmp 7) (.tmp 7) 22 rfl w.heap.size 29 i0 (.agg #[.int .i64 0, .int .i64 0, .int .i64 0, .int .i64 0, .int .i64 0]) 5 Try.underlying22 HI.out.1 HI.out.2.1 HI.out.2.2.1 .i64 .i64 (l.length : Int) (l.length : Int) l.length rfl rfl rfl rfl HBY.out (by unfold maxLen; omega) (Nat.le_refl _) ?_); intro w1 hown1 hgrow1)
  have hb1 : Below w.heap.size w w1 := (Below.refl _ _).grown hgrow1 (Nat.le_refl _) (by simp)
  obtain ⟨cur, hcur, hcs⟩ : ∃ cur : Array Value, w1.heap[w.heap.size]? = some (.cells cur 29) ∧ cur.size = l.length * 5 := by
    obtain ⟨_, ⟨h1, _⟩ | ⟨g1, c1, cur, h1, _, h2, _, _, h5, _⟩⟩ := hown1
    · cases h1
    · cases h1; exact ⟨cur, h2, h5⟩
  have HC : Hid (w1.heap[w.heap.size]? = some (.cells cur 29) ∧ cur.size = l.length * 5) := ⟨hcur, hcs⟩
  clear hown1 hgrow1 hcur hcs
  iterate 7 go_step
  refine wpList_copy_whole rfl (.tmp 9) (.tmp 10) 22 22 rfl 29 5 Try.underlying22 info29s w.heap.size l.length l.length a c0 rfl rfl cur 29 HC.out.1 (flat l) (flat_length l) HC.out.2 (evsIn_src (HA.out.below hb1)) (flat_oneCell l) ?_
  have hs := setRow_heap w1 w.heap.size cur (flat l).toArray 29 (0, 0) HC.out.1
  have hb2 := below_setRow hb1 (Nat.le_refl _) (flat l).toArray
  have HS : Hid ((w1.setRow w.heap.size (flat l).toArray).heap[w.heap.size]? = some (.cells (flat l).toArray 29)) := hs
  clear hs hb1 HC
  generalize w1.setRow w.heap.size (flat l).toArray = w2 at HS hb2 ⊢
  go_wp2
  go_ret
  exact ⟨rfl, ownEv_of_block hn HS.out, hb2⟩

theorem cloneEvs_nil (c0 : Nat) (w : World) :
    Calls Try.prog 13 #[.slice none 0 c0] w fun e w' => e = .returned (.slice none 0 0) ∧ w' = w := by
  have q22 : ∀ (w : World) (a : Option Addr) (n c n' c' : Nat), (binOp .eql 22 (.slice a n c) (.slice none n' c')).run Try.prog w = .ok (.bool a.isNone) w := fun w a n c n' c' => Lib.run_eql_slice_nil w _ _ a n c n' c' Try.underlying22
  go_enter Try.func13, Try.ntmps13
  go_wp2
  go_ret
  exact ⟨rfl, rfl⟩

/-- cloneEvs: a copy, in new memory. -/
theorem cloneEvs_any (a : Option Addr) (c0 : Nat) (l : List E5) (w : World) (hn : l.length ≤ 131072) (hA : EvsIn w a l) (hnil : a = none → l = []) :
    Calls Try.prog 13 #[.slice a l.length c0] w fun e w' => ∃ a', e = .returned (.slice a' l.length l.length) ∧ EvsIn w' a' l ∧ Below w.heap.size w w' := by
  cases a with
  | none =>
    obtain rfl := hnil rfl
    refine (cloneEvs_nil c0 w).mono ?_
    rintro e w' ⟨rfl, rfl⟩
    exact ⟨none, rfl, .inl rfl, Below.refl _ _⟩
  | some a =>
    refine (cloneEvs_some a c0 l w hn hA).mono ?_
    rintro e w' ⟨rfl, hg, hb⟩
    exact ⟨_, rfl, hg.evs, hb⟩

set_option maxHeartbeats 400000 in
theorem bytes3_any (a : Option Addr) (n c : Nat) (w : World) (hn : n ≤ maxLen) : Calls Try.prog 11 #[.slice a n c] w fun e w' => RB (fun b => b = true → n ≤ 1048576) e ∧ w' = w := by
  unfold maxLen at hn
  by_cases t1 : 1048576 < (n : Int)
  · go_enter Try.func11, Try.ntmps11
    go_wp2
    go_ret
    exact ⟨RB.mk (b := false) (by simp) rfl, rfl⟩
  · go_enter Try.func11, Try.ntmps11
    go_wp2
    go_ret
    exact ⟨RB.mk (b := true) (by intro _; omega) rfl, rfl⟩
set_option maxHeartbeats 400000 in
theorem bytes4_any (a : Option Addr) (n c : Nat) (w : World) (hn : n ≤ maxLen) : Calls Try.prog 19 #[.slice a n c] w fun e w' => RB (fun b => b = true → n ≤ 1048576) e ∧ w' = w := by
  unfold maxLen at hn
  by_cases t1 : 1048576 < (n : Int)
  · go_enter Try.func19, Try.ntmps19
    go_wp2
    go_ret
    exact ⟨RB.mk (b := false) (by simp) rfl, rfl⟩
  · go_enter Try.func19, Try.ntmps19
    go_wp2
    go_ret
    exact ⟨RB.mk (b := true) (by intro _; omega) rfl, rfl⟩
end Go.Proofs.Qxb6001094a

import Derived.Test.Qxb6001094aBase
import Derived.Laws.CopyOwn
import Derived.Deep.OwnRows
import Derived.Lib.SliceRun
namespace Go.Proofs.Qxb6001094a
open Go.RowKit Go.Deep

theorem info3 : (Try.prog.info? 3).map (fun i => (i.zero, i.size, i.bytes)) = some (some (.int .i64 0), 1, 8) := by kernel_rfl
theorem info37 : (Try.prog.info? 37).map (fun i => (i.zero, i.size, i.bytes)) = some (some (.slice none 0 0), 1, 24) := by kernel_rfl

/-- A slice of n ints that lies at the head of a block from lo on, all of it known. -/
def IntsIn (w : World) (lo : Nat) (a : Option Addr) (n : Nat) (Z : Nat → Int) : Prop :=
  n = 0 ∨ ∃ g, lo ≤ g ∧ a = some ⟨g, 0, none⟩ ∧ w.rowIs g 3 n (fun i => .int .i64 (Z i))

/-- A slice of ints that came in. -/
def IntsAt (w : World) (a : Option Addr) (n : Nat) (Z : Nat → Int) : Prop :=
  n = 0 ∨ ∃ b o, a = some ⟨b, o, none⟩ ∧ ∀ i, i < n → w.cell? ⟨b, o + i, none⟩ = some (.int .i64 (Z i))

theorem IntsIn.below {w w' : World} {lo n : Nat} {a : Option Addr} {Z : Nat → Int} (h : IntsIn w lo a n Z) (hb : Below w.heap.size w w') : IntsIn w' lo a n Z := by
  rcases h with h | ⟨g, hg, ha, hr⟩
  · exact .inl h
  · exact .inr ⟨g, hg, ha, hr.of_block (hb.block g hr.lt)⟩

def cellsOfZ (n : Nat) (Z : Nat → Int) : List Value := (List.range n).map fun i => .int .i64 (Z i)
theorem cellsOfZ_length (n : Nat) (Z : Nat → Int) : (cellsOfZ n Z).length = n := by simp [cellsOfZ]
theorem cellsOfZ_get (n : Nat) (Z : Nat → Int) (i : Nat) (h : i < n) : (cellsOfZ n Z)[i]? = some (.int .i64 (Z i)) := by simp [cellsOfZ, h]
theorem cellsOfZ_get' {n : Nat} {Z : Nat → Int} {i : Nat} {v : Value} (h : (cellsOfZ n Z)[i]? = some v) : i < n ∧ v = .int .i64 (Z i) := by
  have hi : i < n := by
    have := (List.getElem?_eq_some_iff.1 h).1
    rw [cellsOfZ_length] at this; exact this
  rw [cellsOfZ_get n Z i hi] at h
  exact ⟨hi, by simpa using h.symm⟩
theorem cellsOfZ_one (n : Nat) (Z : Nat → Int) (v : Value) (h : v ∈ cellsOfZ n Z) : v.oneCell' = true := by
  simp [cellsOfZ] at h
  obtain ⟨i, _, rfl⟩ := h
  rfl

theorem made_block (w : World) (n : Nat) (t : TypeId) (z : Value) : (w.alloc (.cells (madeCells #[z] n) t)).heap[w.heap.size]? = some (.cells (madeCells #[z] n).toList.toArray t) := by
  rw [heap_alloc_new]
theorem made_len (z : Value) (n : Nat) : (madeCells #[z] n).toList.length = n := by
  rw [toList_madeCells_one]; simp
theorem splice_all {α : Type} (L cs : List α) (h : L.length = cs.length) : splice L 0 cs = cs := by
  simp [splice, ← h]
theorem info3s : Option.map (fun x => x.size) (Try.prog.info? 3) = some 1 := by kernel_rfl

theorem intsAt_src {w : World} {a : Option Addr} {n : Nat} {Z : Nat → Int} (h : IntsAt w a n Z) (o : Obj) (hlt : 0 < n → ∀ x, a = some x → x.block < w.heap.size) :
    0 < (cellsOfZ n Z).length → ∃ ad, a = some ad ∧ ∀ (j : Nat) (v : Value), (cellsOfZ n Z)[j]? = some v → (w.alloc o).cell? (ad.add j) = some v := by
  intro hp
  rw [cellsOfZ_length] at hp
  rcases h with h | ⟨b, o', rfl, hc⟩
  · omega
  refine ⟨_, rfl, fun j v hj => ?_⟩
  obtain ⟨hjn, rfl⟩ := cellsOfZ_get' hj
  have hb := hlt hp _ rfl
  rw [show (w.alloc o).cell? ((⟨b, o', none⟩ : Addr).add j) = w.cell? ((⟨b, o', none⟩ : Addr).add j) from ((Below.refl w.heap.size w).alloc (Nat.le_refl _) o).cell (by rw [WideShapes.add_plain]; exact hb)]
  rw [WideShapes.add_plain]; exact hc j hjn

set_option maxHeartbeats 400000 in
theorem cloneInts_some (a : Addr) (n c0 : Nat) (Z : Nat → Int) (w : World) (hn : n ≤ 131072) (hA : IntsAt w (some a) n Z) :
    Calls Try.prog 24 #[.slice (some a) n c0] w fun e w' => e = .returned (.slice (some ⟨w.heap.size, 0, none⟩) n n) ∧
      Hid (w'.heap[w.heap.size]? = some (.cells (splice (madeCells #[.int .i64 0] n).toList 0 (cellsOfZ n Z)).toArray 3)) ∧ Below w.heap.size w w' := by
  have q37 : ∀ (w : World) (a : Option Addr) (n c n' c' : Nat), (binOp .eql 37 (.slice a n c) (.slice none n' c')).run Try.prog w = .ok (.bool a.isNone) w := fun w a n c n' c' => Lib.run_eql_slice_nil w _ _ a n c n' c' Try.underlying37
  have hmk := run_make_row' (P := Try.prog) 37 3 (.int .i64 0) 8 Try.underlying37 info3 rfl .i64 .i64 n (by omega) (by omega)
  have hlt : 0 < n → ∀ x, some a = some x → x.block < w.heap.size := by
    intro h0 x hx
    rcases hA with h | ⟨b, o', hab, hc⟩
    · omega
    · rw [hab] at hx; cases hx; exact block_lt_of_cell (hc 0 h0)
  have Hsrc : Hid (∀ o : Obj, 0 < (cellsOfZ n Z).length → ∃ ad, some a = some ad ∧ ∀ (j : Nat) (v : Value), (cellsOfZ n Z)[j]? = some v → (w.alloc o).cell? (ad.add j) = some v) := fun o => intsAt_src hA o hlt
  clear hA hlt
  go_enter Try.func24, Try.ntmps24
  iterate 50 go_step
  (refine wpList_copy_splice rfl (.tmp 9) (.tmp 10) 37 37 rfl 3 Try.underlying37 info3s _ _ n n n c0 rfl rfl w.heap.size 0 (madeCells #[.int .i64 0] n).toList 3 (made_block _ _ _ _) (cellsOfZ n Z) (by rw [cellsOfZ_length]; simp) (fun hp => ⟨rfl, Hsrc.out _ hp⟩) (by rw [cellsOfZ_length, made_len]; omega) (cellsOfZ_one n Z) w.heap.size w ((Below.refl _ _).alloc (Nat.le_refl _) _) (Nat.le_refl _) ?_; intro w1 hg1 hb1)
  go_wp2
  go_ret
  exact ⟨rfl, hg1, hb1⟩

theorem row_of_block {w : World} {g n : Nat} {Z : Nat → Int} (h : w.heap[g]? = some (.cells (cellsOfZ n Z).toArray 3)) : w.rowIs g 3 n (fun i => .int .i64 (Z i)) :=
  ⟨_, h, by simp [cellsOfZ], fun i hi => by simpa using cellsOfZ_get n Z i hi⟩

theorem cloneInts_nil (c0 : Nat) (w : World) :
    Calls Try.prog 24 #[.slice none 0 c0] w fun e w' => e = .returned (.slice none 0 0) ∧ w' = w := by
  have q37 : ∀ (w : World) (a : Option Addr) (n c n' c' : Nat), (binOp .eql 37 (.slice a n c) (.slice none n' c')).run Try.prog w = .ok (.bool a.isNone) w := fun w a n c n' c' => Lib.run_eql_slice_nil w _ _ a n c n' c' Try.underlying37
  go_enter Try.func24, Try.ntmps24
  go_wp2
  go_ret
  exact ⟨rfl, rfl⟩

/-- cloneInts: a copy, in new memory. -/
theorem cloneInts_any (a : Option Addr) (n c0 : Nat) (Z : Nat → Int) (w : World) (hn : n ≤ 131072) (hA : IntsAt w a n Z) (hnil : a = none → n = 0) :
    Calls Try.prog 24 #[.slice a n c0] w fun e w' => ∃ a', e = .returned (.slice a' n n) ∧ IntsIn w' w.heap.size a' n Z ∧ Below w.heap.size w w' := by
  cases a with
  | none =>
    obtain rfl := hnil rfl
    refine (cloneInts_nil c0 w).mono ?_
    rintro e w' ⟨rfl, rfl⟩
    exact ⟨none, rfl, .inl rfl, Below.refl _ _⟩
  | some a =>
    refine (cloneInts_some a n c0 Z w hn hA).mono ?_
    rintro e w' ⟨rfl, hg, hb⟩
    have hg := hg.out
    rw [splice_all _ _ (by rw [made_len, cellsOfZ_length])] at hg
    exact ⟨_, rfl, .inr ⟨_, Nat.le_refl _, rfl, row_of_block hg⟩, hb⟩
end Go.Proofs.Qxb6001094a

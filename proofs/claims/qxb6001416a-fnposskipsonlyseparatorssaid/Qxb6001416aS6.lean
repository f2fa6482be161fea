import Derived.Test.Qxb6001416aBase
namespace Go.Proofs.Qxb6001416a
open Go.RowKit Go.Deep

/-- A slice of n bytes that came in. -/
def BytesAt (w : World) (a : Option Addr) (n : Nat) (Z : Nat → Nat) : Prop :=
  n = 0 ∨ ∃ x, a = some x ∧ ∀ i, i < n → w.cell? (x.add i) = some (.int .u8 (Z i : Int))
/-- A slice of n bytes that lies at the head of a block. -/
def BytesIn (w : World) (a : Option Addr) (n : Nat) (Z : Nat → Nat) : Prop :=
  n = 0 ∨ ∃ g, a = some ⟨g, 0, none⟩ ∧ g < w.heap.size ∧ ∀ i, i < n → w.cell? ⟨g, i, none⟩ = some (.int .u8 (Z i : Int))
theorem BytesIn.below {w w' : World} {a : Option Addr} {n : Nat} {Z : Nat → Nat} (h : BytesIn w a n Z) (hb : Below w.heap.size w w') : BytesIn w' a n Z := by
  rcases h with h | ⟨g, ha, hg, hc⟩
  · exact .inl h
  · exact .inr ⟨g, ha, Nat.lt_of_lt_of_le hg hb.size, fun i hi => (hb.cell (p := ⟨g, i, none⟩) hg).trans (hc i hi)⟩

def cellsOfB (n : Nat) (Z : Nat → Nat) : List Value := (List.range n).map fun i => .int .u8 (Z i : Int)
theorem cellsOfB_length (n : Nat) (Z : Nat → Nat) : (cellsOfB n Z).length = n := by simp [cellsOfB]
theorem cellsOfB_get (n : Nat) (Z : Nat → Nat) (i : Nat) (h : i < n) : (cellsOfB n Z)[i]? = some (.int .u8 (Z i : Int)) := by simp [cellsOfB, h]
theorem cellsOfB_get' {n : Nat} {Z : Nat → Nat} {i : Nat} {v : Value} (h : (cellsOfB n Z)[i]? = some v) : i < n ∧ v = .int .u8 (Z i : Int) := by
  have hi : i < n := by
    have := (List.getElem?_eq_some_iff.1 h).1
    rw [cellsOfB_length] at this; exact this
  rw [cellsOfB_get n Z i hi] at h
  exact ⟨hi, by simpa using h.symm⟩
theorem cellsOfB_one (n : Nat) (Z : Nat → Nat) (v : Value) (h : v ∈ cellsOfB n Z) : v.oneCell' = true := by
  simp [cellsOfB] at h
  obtain ⟨i, _, rfl⟩ := h
  rfl
theorem made_block (w : World) (n : Nat) (t : TypeId) (z : Value) : (w.alloc (.cells (madeCells #[z] n) t)).heap[w.heap.size]? = some (.cells (madeCells #[z] n).toList.toArray t) := by
  rw [heap_alloc_new]
theorem made_len (z : Value) (n : Nat) : (madeCells #[z] n).toList.length = n := by
  rw [toList_madeCells_one]; simp
theorem splice_all {α : Type} (L cs : List α) (h : L.length = cs.length) : splice L 0 cs = cs := by
  simp [splice, ← h]
theorem info5' : (Try.prog.info? 5).map (fun i => (i.zero, i.size, i.bytes)) = some (some (.int .u8 0), 1, 1) := by kernel_rfl
theorem info5s : Option.map (fun x => x.size) (Try.prog.info? 5) = some 1 := by kernel_rfl

theorem bytesAt_src {w : World} {a : Option Addr} {n : Nat} {Z : Nat → Nat} (h : BytesAt w a n Z) (o : Obj) :
    0 < (cellsOfB n Z).length → ∃ ad, a = some ad ∧ ∀ (j : Nat) (v : Value), (cellsOfB n Z)[j]? = some v → (w.alloc o).cell? (ad.add j) = some v := by
  intro hp
  rw [cellsOfB_length] at hp
  rcases h with h | ⟨x, rfl, hc⟩
  · omega
  refine ⟨_, rfl, fun j v hj => ?_⟩
  obtain ⟨hjn, rfl⟩ := cellsOfB_get' hj
  rw [show (w.alloc o).cell? (x.add j) = w.cell? (x.add j) from ((Below.refl w.heap.size w).alloc (Nat.le_refl _) o).cell (block_lt_of_cell (hc j hjn))]
  exact hc j hjn

set_option maxHeartbeats 400000 in
theorem clone_some (a : Addr) (n c0 : Nat) (Z : Nat → Nat) (w : World) (hn : n ≤ 1048576) (hA : BytesAt w (some a) n Z) :
    Calls Try.prog 16 #[.slice (some a) n c0] w fun e w' => e = .returned (.slice (some ⟨w.heap.size, 0, none⟩) n n) ∧
      Hid (w'.heap[w.heap.size]? = some (.cells (splice (madeCells #[.int .u8 0] n).toList 0 (cellsOfB n Z)).toArray 5)) ∧ Below w.heap.size w w' := by
  have q29 : ∀ (w : World) (a : Option Addr) (n c n' c' : Nat), (binOp .eql 29 (.slice a n c) (.slice none n' c')).run Try.prog w = .ok (.bool a.isNone) w := fun w a n c n' c' => Lib.run_eql_slice_nil w _ _ a n c n' c' Try.underlying29
  have hmk := run_make_row' (P := Try.prog) 29 5 (.int .u8 0) 1 Try.underlying29 info5' rfl .i64 .i64 n (by omega) (by omega)
  have Hsrc : Hid (∀ o : Obj, 0 < (cellsOfB n Z).length → ∃ ad, some a = some ad ∧ ∀ (j : Nat) (v : Value), (cellsOfB n Z)[j]? = some v → (w.alloc o).cell? (ad.add j) = some v) := fun o => bytesAt_src hA o
  clear hA
  go_enter Try.func16, Try.ntmps16
  iterate 50 go_step
  (refine wpList_copy_splice rfl (.tmp 9) (.tmp 10) 29 29 rfl 5 Try.underlying29 info5s _ _ n n n c0 rfl rfl w.heap.size 0 (madeCells #[.int .u8 0] n).toList 5 (made_block _ _ _ _) (cellsOfB n Z) (by rw [cellsOfB_length]; simp) (fun hp => ⟨rfl, Hsrc.out _ hp⟩) (by rw [cellsOfB_length, made_len]; omega) (cellsOfB_one n Z) w.heap.size w ((Below.refl _ _).alloc (Nat.le_refl _) _) (Nat.le_refl _) ?_; intro w1 hg1 hb1)
  go_wp2
  go_ret
  exact ⟨rfl, hg1, hb1⟩

theorem clone_nil (c0 : Nat) (w : World) :
    Calls Try.prog 16 #[.slice none 0 c0] w fun e w' => e = .returned (.slice none 0 0) ∧ w' = w := by
  have q29 : ∀ (w : World) (a : Option Addr) (n c n' c' : Nat), (binOp .eql 29 (.slice a n c) (.slice none n' c')).run Try.prog w = .ok (.bool a.isNone) w := fun w a n c n' c' => Lib.run_eql_slice_nil w _ _ a n c n' c' Try.underlying29
  go_enter Try.func16, Try.ntmps16
  go_wp2
  go_ret
  exact ⟨rfl, rfl⟩

/-- zzCloneBytes: a copy, in new memory. -/
theorem clone_any (a : Option Addr) (n c0 : Nat) (Z : Nat → Nat) (w : World) (hn : n ≤ 1048576) (hA : BytesAt w a n Z) (hnil : a = none → n = 0) :
    Calls Try.prog 16 #[.slice a n c0] w fun e w' => ∃ a', e = .returned (.slice a' n n) ∧ BytesIn w' a' n Z ∧ Below w.heap.size w w' := by
  cases a with
  | none =>
    obtain rfl := hnil rfl
    refine (clone_nil c0 w).mono ?_
    rintro e w' ⟨rfl, rfl⟩
    exact ⟨none, rfl, .inl rfl, Below.refl _ _⟩
  | some a =>
    refine (clone_some a n c0 Z w hn hA).mono ?_
    rintro e w' ⟨rfl, hg, hb⟩
    have hg := hg.out
    rw [splice_all _ _ (by rw [made_len, cellsOfB_length])] at hg
    refine ⟨_, rfl, .inr ⟨_, rfl, lt_of_block hg, fun i hi => ?_⟩, hb⟩
    have := cellsOfB_get n Z i hi
    simp [World.cell?, hg, this]

def isSep (b : Nat) : Bool := b == 10 || b == 32 || b == 9 || b == 13 || b == 44 || b == 58
set_option maxHeartbeats 400000 in
theorem isSep_any (b : Nat) (w : World) : Calls Try.prog 18 #[.int .u8 (b : Int)] w fun e w' => e = .returned (.bool (isSep b)) ∧ w' = w := by
  by_cases h1 : b = 10
  · subst h1
    go_enter Try.func18, Try.ntmps18
    go_wp2
    go_ret
    exact ⟨rfl, rfl⟩
  have z1 : ((b : Int) == 10) = false := by simp; omega
  by_cases h2 : b = 32
  · subst h2
    go_enter Try.func18, Try.ntmps18
    go_wp2
    go_ret
    exact ⟨rfl, rfl⟩
  have z2 : ((b : Int) == 32) = false := by simp; omega
  by_cases h3 : b = 9
  · subst h3
    go_enter Try.func18, Try.ntmps18
    go_wp2
    go_ret
    exact ⟨rfl, rfl⟩
  have z3 : ((b : Int) == 9) = false := by simp; omega
  by_cases h4 : b = 13
  · subst h4
    go_enter Try.func18, Try.ntmps18
    go_wp2
    go_ret
    exact ⟨rfl, rfl⟩
  have z4 : ((b : Int) == 13) = false := by simp; omega
  by_cases h5 : b = 44
  · subst h5
    go_enter Try.func18, Try.ntmps18
    go_wp2
    go_ret
    exact ⟨rfl, rfl⟩
  have z5 : ((b : Int) == 44) = false := by simp; omega
  by_cases h6 : b = 58
  · subst h6
    go_enter Try.func18, Try.ntmps18
    go_wp2
    go_ret
    exact ⟨rfl, rfl⟩
  have z6 : ((b : Int) == 58) = false := by simp; omega
  have hs : isSep b = false := by simp [isSep, h1, h2, h3, h4, h5, h6]
  rw [hs]
  go_enter Try.func18, Try.ntmps18
  go_wp2
  go_ret
  exact ⟨rfl, rfl⟩

theorem bytes15_any (s : ByteArray) (a : Option Addr) (n c : Nat) (x y : Int) (hs : s.size ≤ maxLen) (hn : n ≤ maxLen) (w : World) : Calls Try.prog 15 #[.string s, .slice a n c, .int .i64 x, .int .i64 y] w fun e w' => e = .returned (.bool (decide (s.size + n ≤ 1048576))) ∧ w' = w := by
  unfold maxLen at hs hn
  by_cases h1 : 1048576 < s.size
  · have h1z : decide ((1048576 : Int) < (s.size : Int)) = true := decide_eq_true (by omega)
    have hd : decide (s.size + n ≤ 1048576) = false := decide_eq_false (by omega)
    rw [hd]
    go_enter Try.func15, Try.ntmps15
    go_wp2
    go_ret
    exact ⟨rfl, rfl⟩
  have h1z : decide ((1048576 : Int) < (s.size : Int)) = false := decide_eq_false (by omega)
  by_cases h2 : 1048576 < n
  · have h2z : decide ((1048576 : Int) < (n : Int)) = true := decide_eq_true (by omega)
    have hd : decide (s.size + n ≤ 1048576) = false := decide_eq_false (by omega)
    rw [hd]
    go_enter Try.func15, Try.ntmps15
    go_wp2
    go_ret
    exact ⟨rfl, rfl⟩
  have h2z : decide ((1048576 : Int) < (n : Int)) = false := decide_eq_false (by omega)
  by_cases h3 : 1048576 < s.size + n
  · have h3z : decide ((1048576 : Int) < (s.size : Int) + (n : Int)) = true := decide_eq_true (by omega)
    have hd : decide (s.size + n ≤ 1048576) = false := decide_eq_false (by omega)
    rw [hd]
    clear hd
    go_enter Try.func15, Try.ntmps15
    go_wp2
    go_ret
    exact ⟨rfl, rfl⟩
  · have h3z : decide ((1048576 : Int) < (s.size : Int) + (n : Int)) = false := decide_eq_false (by omega)
    have hd : decide (s.size + n ≤ 1048576) = true := decide_eq_true (by omega)
    rw [hd]
    clear hd
    go_enter Try.func15, Try.ntmps15
    go_wp2
    go_ret
    exact ⟨rfl, rfl⟩
end Go.Proofs.Qxb6001416a

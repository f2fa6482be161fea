import Derived.Test.Qxb6001094aJ3
namespace Go.Proofs.Qxb6001094a
open Go.RowKit Go.Deep

/-- A square of ints that came in. -/
def GridAt (w : World) (a : Option Addr) (n : Nat) (Z : Nat → Nat → Int) : Prop :=
  n = 0 ∨ ∃ (b o : Nat) (A : Nat → Option Addr) (C : Nat → Nat), a = some ⟨b, o, none⟩ ∧ (∀ r, r < n → w.cell? ⟨b, o + r, none⟩ = some (.slice (A r) n (C r))) ∧ ∀ r, r < n → IntsAt w (A r) n (Z r)

/-- A square of ints in blocks from lo on. -/
def GridIn (w : World) (lo : Nat) (a : Option Addr) (n : Nat) (Z : Nat → Nat → Int) : Prop :=
  n = 0 ∨ ∃ (g : Nat) (G : Nat → Option Addr), lo ≤ g ∧ a = some ⟨g, 0, none⟩ ∧ w.rowIs g 37 n (fun r => .slice (G r) n n) ∧ ∀ r, r < n → IntsIn w lo (G r) n (Z r)

theorem GridIn.below {w w' : World} {lo n : Nat} {a : Option Addr} {Z : Nat → Nat → Int} (h : GridIn w lo a n Z) (hb : Below w.heap.size w w') : GridIn w' lo a n Z := by
  rcases h with h | ⟨g, G, hg, ha, hr, hi⟩
  · exact .inl h
  · exact .inr ⟨g, G, hg, ha, hr.of_block (hb.block g hr.lt), fun r hr => (hi r hr).below hb⟩

theorem IntsAt.below {w w' : World} {n : Nat} {a : Option Addr} {Z : Nat → Int} (h : IntsAt w a n Z) {B : Nat} (hb : Below B w w') (hB : w.heap.size ≤ B) : IntsAt w' a n Z := by
  rcases h with h | ⟨b, o, ha, hr⟩
  · exact .inl h
  · exact .inr ⟨b, o, ha, fun i hi => (hb.cell (by have := block_lt_of_cell (hr i hi); simp at this ⊢; omega)).trans (hr i hi)⟩

/-- cloneRows after k rounds. -/
def CloneR (w wr : World) (n k : Nat) (G : Nat → Option Addr) (Z : Nat → Nat → Int) : Prop :=
  wr.rowIs w.heap.size 37 n (fun r => if r < k then .slice (G r) n n else .slice none 0 0) ∧ (∀ r, r < k → IntsIn wr (w.heap.size + 1) (G r) n (Z r)) ∧ Below w.heap.size w wr

theorem IntsIn.mono {w : World} {lo lo' n : Nat} {a : Option Addr} {Z : Nat → Int} (h : IntsIn w lo a n Z) (hl : lo' ≤ lo) : IntsIn w lo' a n Z := by
  rcases h with h | ⟨g, hg, ha, hr⟩
  · exact .inl h
  · exact .inr ⟨g, by omega, ha, hr⟩

theorem CloneR.start (w : World) (n : Nat) (G : Nat → Option Addr) (Z : Nat → Nat → Int) : CloneR w (w.alloc (.cells (madeCells #[.slice none 0 0] n) 37)) n 0 G Z :=
  ⟨(World.rowIs_made w _ n 37).congr (fun i _ => by simp), fun r hr => by omega, (Below.refl _ _).alloc (Nat.le_refl _) _⟩

theorem CloneR.step {w wr w1 : World} {n k : Nat} {G : Nat → Option Addr} {Z : Nat → Nat → Int} (h : CloneR w wr n k G Z) {a' : Option Addr}
    (hi : IntsIn w1 wr.heap.size a' n (Z k)) (hb : Below wr.heap.size wr w1) :
    CloneR w (w1.setCell ⟨w.heap.size, k, none⟩ (.slice a' n n)) n (k + 1) (fun r => if r = k then a' else G r) Z := by
  obtain ⟨h1, h2, h3⟩ := h
  have hlt := h1.lt
  have h1' := h1.of_block (hb.block _ hlt)
  have hoth : ∀ {a : Option Addr} {Y : Nat → Int}, IntsIn w1 (w.heap.size + 1) a n Y → IntsIn (w1.setCell ⟨w.heap.size, k, none⟩ (.slice a' n n)) (w.heap.size + 1) a n Y := by
    intro a Y h
    rcases h with h | ⟨g, hg, ha, hr⟩
    · exact .inl h
    · exact .inr ⟨g, hg, ha, hr.setOther (by simp; omega) _⟩
  refine ⟨(h1'.set k _).congr (fun i hi => ?_), fun r hr => ?_, ?_⟩
  · by_cases e : i = k
    · simp [e]
    · by_cases e2 : i < k
      · simp [e, e2, show i < k + 1 by omega]
      · simp [e, e2, show ¬ i < k + 1 by omega]
  · by_cases e : r = k
    · simp only [e, if_true]
      exact hoth (hi.mono (by omega))
    · simp only [e, if_false]
      exact hoth ((h2 r (by omega)).below hb)
  · exact (h3.trans (hb.mono (by omega))).setCell (Nat.le_refl _) _

set_option maxHeartbeats 400000 in
theorem cloneRows_some (a : Addr) (n c0 : Nat) (Z : Nat → Nat → Int) (w : World) (hn : n ≤ 131072) (hA : GridAt w (some a) n Z) :
    Calls Try.prog 25 #[.slice (some a) n c0] w fun e w' => ∃ G, e = .returned (.slice (some ⟨w.heap.size, 0, none⟩) n n) ∧ CloneR w w' n n G Z := by
  have q38 : ∀ (w : World) (a : Option Addr) (n c n' c' : Nat), (binOp .eql 38 (.slice a n c) (.slice none n' c')).run Try.prog w = .ok (.bool a.isNone) w := fun w a n c n' c' => Lib.run_eql_slice_nil w _ _ a n c n' c' Try.underlying38
  have hmk := run_make_row' (P := Try.prog) 38 37 (.slice none 0 0) 24 Try.underlying38 info37 rfl .i64 .i64 n (by omega) (by omega)
  have HA : Hid (GridAt w (some a) n Z) := hA
  clear hA
  go_enter Try.func25, Try.ntmps25
  go_wp2
  go_loopw [4] (fun i wr => ∃ (k : Nat) (G : Nat → Option Addr), k ≤ n ∧ i = .int .i64 k ∧ CloneR w wr n k G Z) (fun i _ => n - (intOf i).toNat)
  case atStart => exact ⟨0, fun _ => none, Nat.zero_le _, rfl, CloneR.start w n _ Z⟩
  case round =>
    obtain ⟨k, G, hk, rfl, hR⟩ := hrel
    by_cases hlt : k < n
    · rcases HA.out with h0 | ⟨b, o, A, C, hab, hc, hi⟩
      · omega
      cases hab
      have hck : wr.cell? ⟨b, o + k, none⟩ = some (.slice (A k) n (C k)) := (hR.2.2.cell (by have := block_lt_of_cell (hc k hlt); exact this)).trans (hc k hlt)
      have hik := (hi k hlt).below hR.2.2 (Nat.le_refl _)
      have hnl : A k = none → n = 0 := by
        intro h
        rcases hi k hlt with h0 | ⟨b', o', h', _⟩
        · exact h0
        · rw [h] at h'; cases h'
      have hsz := hR.1.lt
      have HI : Hid (IntsAt wr (A k) n (Z k) ∧ (A k = none → n = 0)) := ⟨hik, hnl⟩
      clear HA hc hi hik hnl
      go_wp2_with (go_at_call 24; refine (cloneInts_any _ _ _ (Z k) _ hn HI.out.1 HI.out.2).mono ?_; rintro e w1 ⟨a', rfl, hin, hb⟩; have hw1 := (hR.1.of_block (hb.block _ hsz)).cell hlt; have hw2 := (hR.1.of_block (hb.block _ hsz)).frozen k)
      go_roundw
      case rel => exact ⟨k + 1, _, by omega, by go_num, hR.step hin hb⟩
      case measure => simp [intOf]; omega
    · obtain rfl : k = n := by omega
      go_wp2
      go_ret
      exact ⟨G, rfl, hR⟩

theorem cloneRows_nil (c0 : Nat) (w : World) :
    Calls Try.prog 25 #[.slice none 0 c0] w fun e w' => e = .returned (.slice none 0 0) ∧ w' = w := by
  have q38 : ∀ (w : World) (a : Option Addr) (n c n' c' : Nat), (binOp .eql 38 (.slice a n c) (.slice none n' c')).run Try.prog w = .ok (.bool a.isNone) w := fun w a n c n' c' => Lib.run_eql_slice_nil w _ _ a n c n' c' Try.underlying38
  go_enter Try.func25, Try.ntmps25
  go_wp2
  go_ret
  exact ⟨rfl, rfl⟩

/-- cloneRows: a copy of a square, in new memory. -/
theorem cloneRows_any (a : Option Addr) (n c0 : Nat) (Z : Nat → Nat → Int) (w : World) (hn : n ≤ 131072) (hA : GridAt w a n Z) (hnil : a = none → n = 0) :
    Calls Try.prog 25 #[.slice a n c0] w fun e w' => ∃ a', e = .returned (.slice a' n n) ∧ GridIn w' w.heap.size a' n Z ∧ Below w.heap.size w w' := by
  cases a with
  | none =>
    obtain rfl := hnil rfl
    refine (cloneRows_nil c0 w).mono ?_
    rintro e w' ⟨rfl, rfl⟩
    exact ⟨none, rfl, .inl rfl, Below.refl _ _⟩
  | some a =>
    refine (cloneRows_some a n c0 Z w hn hA).mono ?_
    rintro e w' ⟨G, rfl, h1, h2, h3⟩
    exact ⟨_, rfl, .inr ⟨_, G, Nat.le_refl _, rfl, h1.congr (fun i hi => by simp [hi]), fun r hr => (h2 r hr).mono (by omega)⟩, h3⟩
end Go.Proofs.Qxb6001094a

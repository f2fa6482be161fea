import Derived.Test.Qxb6001094aE5
namespace Go.Proofs.Qxb6001094a
open Go.RowKit Go.Deep

/-- Only blocks p and q of what was there may have turned. -/
structure Kept2 (w w' : World) (p q : Nat) : Prop where
  os : w'.os = w.os
  tape : w'.tape = w.tape
  output : w'.output = w.output
  size : w.heap.size ≤ w'.heap.size
  block : ∀ k, k < w.heap.size → k ≠ p → k ≠ q → w'.heap[k]? = w.heap[k]?
theorem Kept2.below {w w' : World} {p q B : Nat} (h : Kept2 w w' p q) (hp : B ≤ p) (hq : B ≤ q) (hB : B ≤ w.heap.size) : Below B w w' :=
  ⟨h.os, h.tape, h.output, h.size, fun k hk => h.block k (by omega) (by omega) (by omega)⟩
theorem Kept2.trans {w w' w'' : World} {p q : Nat} (h : Kept2 w w' p q) (h' : Kept2 w' w'' p q) : Kept2 w w'' p q :=
  ⟨h'.os.trans h.os, h'.tape.trans h.tape, h'.output.trans h.output, Nat.le_trans h.size h'.size, fun k hk h1 h2 => (h'.block k (Nat.lt_of_lt_of_le hk h.size) h1 h2).trans (h.block k hk h1 h2)⟩
theorem Kept2.of_below {w w' : World} (p q : Nat) (h : Below w.heap.size w w') : Kept2 w w' p q := ⟨h.os, h.tape, h.output, h.size, fun k hk _ _ => h.block k hk⟩

theorem put5_kept (w : World) (b o p : Nat) (x : E5) : Kept2 w (put5 w b o x) p b :=
  have h : Below 0 w (put5 w b o x) := put5_below (Below.refl 0 w) (Nat.zero_le _)
  ⟨h.os, h.tape, h.output, h.size, fun _ _ _ hk => put5_other hk⟩
theorem setCell_kept (w : World) (b o q : Nat) (v : Value) : Kept2 w (w.setCell ⟨b, o, none⟩ v) b q :=
  have h : Below 0 w (w.setCell ⟨b, o, none⟩ v) := (Below.refl 0 w).setCell (Nat.zero_le _) _
  ⟨h.os, h.tape, h.output, h.size, fun k _ hk _ => Below.heap_setCell _ _ _ _ (by simpa using hk)⟩
/-- A store into a block that was not there yet. -/
theorem Kept2.put_new {w w' : World} {p q b o : Nat} {x : E5} (h : Kept2 w w' p q) (hb : w.heap.size ≤ b) : Kept2 w (put5 w' b o x) p q :=
  have h' : Below 0 w' (put5 w' b o x) := put5_below (Below.refl 0 w') (Nat.zero_le _)
  ⟨h'.os.trans h.os, h'.tape.trans h.tape, h'.output.trans h.output, Nat.le_trans h.size h'.size, fun k hk h1 h2 => (put5_other (by omega)).trans (h.block k hk h1 h2)⟩

/-! ### pop's loop -/
structure PopR (w wr : World) (Q g cap : Nat) (l : List E5) (i : Nat) (L : List E5) : Prop where
  hi : i < L.length
  len : L.length + 1 = l.length
  own : OwnEv wr 32 g cap L
  perm : (L.set i (gt l L.length)).Perm ((l.take L.length).set 0 (gt l L.length))
  heap : IsHeap l.length (gt l) → HeapDown L.length i (gt (L.set i (gt l L.length)))
  res : Box5 wr w.heap.size 32 e0
  first : Box5 wr (w.heap.size + 1) 32 (gt l 0)
  last : Box5 wr (w.heap.size + 2) 32 (gt l L.length)
  q : wr.heap[Q]? = some (.cells #[.slice (some ⟨g, 0, none⟩) l.length cap] 26)
  kept : Kept2 w wr Q g
  qlt : Q < w.heap.size
  glt : g < w.heap.size

theorem PopR.size {w wr : World} {Q g cap i : Nat} {l L : List E5} (h : PopR w wr Q g cap l i L) : w.heap.size + 3 ≤ wr.heap.size := by
  have := lt_of_block h.last; omega
theorem PopR.below {w wr w1 : World} {Q g cap i : Nat} {l L : List E5} (h : PopR w wr Q g cap l i L) (hb : Below wr.heap.size wr w1) : PopR w w1 Q g cap l i L :=
  ⟨h.hi, h.len, h.own.below hb, h.perm, h.heap, h.res.below hb, h.first.below hb, h.last.below hb, (hb.block _ (lt_of_block h.q)).trans h.q, h.kept.trans (Kept2.of_below _ _ hb), h.qlt, h.glt⟩

theorem gt_set_ne {L : List E5} {i j : Nat} {x : E5} (h : j ≠ i) : gt (L.set i x) j = gt L j := by
  unfold gt; simp [List.getD, Ne.symm h]
theorem gt_set_eq {L : List E5} {i : Nat} {x : E5} (h : i < L.length) : gt (L.set i x) i = x := by
  rw [gt_set _ _ _ _ h, if_pos rfl]

/-- c is the child of i that no child comes before. -/
def MinChild (L : List E5) (i c : Nat) : Prop := c < L.length ∧ (c - 1) / 2 = i ∧ 1 ≤ c ∧ ∀ j, j < L.length → (j - 1) / 2 = i → 1 ≤ j → bef (gt L j) (gt L c) = false

theorem minChild_left {L : List E5} {i : Nat} (h1 : 2 * i + 1 < L.length) (h2 : ¬ 2 * i + 1 + 1 < L.length) : MinChild L i (2 * i + 1) := by
  refine ⟨h1, by omega, by omega, fun j h3 h4 h5 => ?_⟩
  obtain rfl : j = 2 * i + 1 := by omega
  exact bef_irrefl _
theorem minChild_left' {L : List E5} {i : Nat} (h1 : 2 * i + 1 < L.length) (h2 : bef (gt L (2 * i + 1 + 1)) (gt L (2 * i + 1)) = false) : MinChild L i (2 * i + 1) := by
  refine ⟨h1, by omega, by omega, fun j h3 h4 h5 => ?_⟩
  by_cases e : j = 2 * i + 1
  · rw [e]; exact bef_irrefl _
  · obtain rfl : j = 2 * i + 1 + 1 := by omega
    exact h2
theorem minChild_right {L : List E5} {i : Nat} (h1 : 2 * i + 1 + 1 < L.length) (h2 : bef (gt L (2 * i + 1 + 1)) (gt L (2 * i + 1)) = true) : MinChild L i (2 * i + 1 + 1) := by
  refine ⟨h1, by omega, by omega, fun j h3 h4 h5 => ?_⟩
  by_cases e : j = 2 * i + 1
  · rw [e]; exact bef_asymm h2
  · obtain rfl : j = 2 * i + 1 + 1 := by omega
    exact bef_irrefl _

theorem PopR.step {w wr : World} {Q g cap i c : Nat} {l L : List E5} (h : PopR w wr Q g cap l i L) (hc : MinChild L i c) (hb : bef (gt L c) (gt l L.length) = true) :
    PopR w (put5 wr g (i * 5) (gt L c)) Q g cap l c (L.set i (gt L c)) := by
  obtain ⟨hcm, hci, hc1, hmin⟩ := hc
  have hic : i < c := by omega
  have hs := h.size
  have hq := h.qlt
  have hg := h.glt
  have hlen : (L.set i (gt L c)).length = L.length := List.length_set
  obtain ⟨curg, hbg⟩ := h.own.block
  have hQg : Q ≠ g := by intro e; rw [← e, h.q] at hbg; simp at hbg
  have hLi : (L.set i (gt l L.length)).length = L.length := List.length_set
  have eM : ((L.set i (gt L c)).set c (gt l L.length)) = ((L.set i (gt l L.length)).set i (L.set i (gt l L.length))[c]).set c (L.set i (gt l L.length))[i] := by
    rw [List.getElem_set_self, List.getElem_set_ne (by omega), List.set_set, gt_of_lt hcm]
  refine ⟨by rw [hlen]; exact hcm, by rw [hlen]; exact h.len, put5_own h.own h.hi, ?_, ?_, ?_, ?_, ?_, ?_, ?_, hq, hg⟩
  · rw [hlen, eM]
    exact (List.set_set_perm (by rw [hLi]; exact h.hi) (by rw [hLi]; exact hcm)).trans h.perm
  · intro hh
    rw [hlen]
    refine (h.heap hh).step hcm hci hc1 (fun j h1 h2 h3 => ?_) ?_ ?_ ?_ ?_
    · rw [gt_set_ne (by omega), gt_set_ne (by omega)]; exact hmin j h1 h2 h3
    · rw [gt_set_ne (by omega), gt_set_eq h.hi]; exact hb
    · rw [gt_set_ne (by omega), gt_set_eq h.hi, gt_set_ne (by omega)]
    · rw [gt_set_eq (by rw [hlen]; exact hcm), gt_set_eq h.hi]
    · intro j h1 h2
      rw [gt_set_ne h2, gt_set_ne h1, gt_set_ne h1]
  · exact (put5_other (by omega)).trans h.res
  · exact (put5_other (by omega)).trans h.first
  · rw [hlen]; exact (put5_other (by omega)).trans h.last
  · exact (put5_other hQg).trans h.q
  · exact h.kept.trans (put5_kept wr g (i * 5) Q (gt L c))

/-- The loop has ended: the last event may go to place i. -/
structure PopE (w wr : World) (Q g cap : Nat) (l : List E5) (i : Nat) (L : List E5) : Prop extends PopR w wr Q g cap l i L where
  fin : IsHeap l.length (gt l) → IsHeap L.length (gt (L.set i (gt l L.length)))
theorem PopR.stop_leaf {w wr : World} {Q g cap i : Nat} {l L : List E5} (h : PopR w wr Q g cap l i L) (hl : L.length ≤ 2 * i + 1) : PopE w wr Q g cap l i L :=
  ⟨h, fun hh => (h.heap hh).stop_leaf hl⟩
theorem PopR.stop {w wr : World} {Q g cap i c : Nat} {l L : List E5} (h : PopR w wr Q g cap l i L) (hc : MinChild L i c) (hb : bef (gt L c) (gt l L.length) = false) : PopE w wr Q g cap l i L := by
  obtain ⟨hcm, hci, hc1, hmin⟩ := hc
  refine ⟨h, fun hh => (h.heap hh).stop (c := c) (fun j h1 h2 h3 => ?_) ?_⟩
  · rw [gt_set_ne (by omega), gt_set_ne (by omega)]; exact hmin j h1 h2 h3
  · rw [gt_set_ne (by omega), gt_set_eq h.hi]; exact hb

/-- What pop leaves. -/
structure PopP (w w' : World) (Q g cap : Nat) (l R : List E5) : Prop where
  len : R.length + 1 = l.length
  perm : (gt l 0 :: R).Perm l
  heap : IsHeap l.length (gt l) → IsHeap R.length (gt R)
  own : OwnEv w' 32 g cap R
  q : w'.heap[Q]? = some (.cells #[.slice (some ⟨g, 0, none⟩) R.length cap] 26)
  kept : Kept2 w w' Q g

theorem pop_perm {l R : List E5} {m : Nat} (hm : 1 ≤ m) (hl : l.length = m + 1) (h : R.Perm ((l.take m).set 0 (gt l m))) : (gt l 0 :: R).Perm l := by
  cases l with
  | nil => simp at hl
  | cons f t =>
    obtain ⟨k, rfl⟩ : ∃ k, m = k + 1 := ⟨m - 1, by omega⟩
    have ht : t.length = k + 1 := by simpa using hl
    have e1 : gt (f :: t) 0 = f := rfl
    have e2 : gt (f :: t) (k + 1) = gt t k := rfl
    rw [e1]
    rw [e2, List.take_succ_cons, List.set_cons_zero] at h
    refine (h.cons f).trans (List.Perm.cons f ?_)
    have e3 : t = t.take k ++ [gt t k] := by
      rw [gt_of_lt (by omega), ← List.take_succ_eq_append_getElem (by omega), List.take_of_length_le (by omega)]
    conv => rhs; rw [e3]
    exact (List.perm_append_singleton _ _).symm

theorem PopE.done {w wr : World} {Q g cap i : Nat} {l L : List E5} (h : PopE w wr Q g cap l i L) :
    PopP w (put5 ((put5 wr g (i * 5) (gt l L.length)).setCell ⟨Q, 0, none⟩ (.slice (some ⟨g, 0, none⟩) L.length cap)) w.heap.size 0 (gt l 0)) Q g cap l (L.set i (gt l L.length)) := by
  have hlen : (L.set i (gt l L.length)).length = L.length := List.length_set
  have hq := h.qlt
  have hg := h.glt
  have hi := h.hi
  obtain ⟨curg, hbg⟩ := h.own.block
  have hQg : Q ≠ g := by intro e; rw [← e, h.q] at hbg; simp at hbg
  refine ⟨by rw [hlen]; exact h.len, ?_, fun hh => by rw [hlen]; exact h.fin hh, ?_, ?_, ?_⟩
  · exact pop_perm (by omega) h.len.symm h.perm
  · refine (put5_own h.own h.hi).of_block ?_
    rw [put5_other (by omega), Below.heap_setCell _ _ _ _ (by simpa using Ne.symm hQg)]
  · rw [put5_other (by omega), blk_setCell' ((put5_other hQg).trans h.q), hlen]; simp
  · exact ((h.kept.trans (put5_kept wr g (i * 5) Q (gt l L.length))).trans (setCell_kept _ Q 0 g _)).put_new (Nat.le_refl _)
end Go.Proofs.Qxb6001094a

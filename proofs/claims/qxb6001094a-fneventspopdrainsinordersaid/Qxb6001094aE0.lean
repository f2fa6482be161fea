import Derived.Test.Qxb6001094aBase
namespace Go.Proofs.Qxb6001094a

/-! ### Events, plain: five numbers; the queue's order; the total order; heaps -/
structure E5 where
  a : Int
  b : Int
  c : Int
  d : Int
  e : Int

def e0 : E5 := ⟨0, 0, 0, 0, 0⟩

/-- The queue's order: earlier time, then lower order. -/
def bef (x y : E5) : Bool := decide (x.a < y.a) || (decide (x.a = y.a) && decide (x.b < y.b))
/-- The total order on all five. -/
def less (x y : E5) : Bool :=
  if x.a = y.a then if x.b = y.b then if x.c = y.c then if x.d = y.d then decide (x.e < y.e) else decide (x.d < y.d) else decide (x.c < y.c) else decide (x.b < y.b) else decide (x.a < y.a)

theorem bef_iff (x y : E5) : bef x y = true ↔ x.a < y.a ∨ x.a = y.a ∧ x.b < y.b := by simp [bef]
theorem bef_false (x y : E5) : bef x y = false ↔ ¬ (x.a < y.a ∨ x.a = y.a ∧ x.b < y.b) := by
  rw [← bef_iff]; cases bef x y <;> simp
theorem bef_asymm {x y : E5} (h : bef x y = true) : bef y x = false := by
  rw [bef_iff] at h; rw [bef_false]; omega
/-- x ≤ y ≤ z. -/
theorem bef_trans {x y z : E5} (h1 : bef y x = false) (h2 : bef z y = false) : bef z x = false := by
  rw [bef_false] at *; omega
theorem bef_trans' {x y z : E5} (h1 : bef x y = true) (h2 : bef z y = false) : bef z x = false := by
  rw [bef_false] at *; rw [bef_iff] at h1; omega
theorem bef_irrefl (x : E5) : bef x x = false := by rw [bef_false]; omega

theorem less_false_total {x y : E5} (h1 : less x y = false) (h2 : less y x = false) : x = y := by
  obtain ⟨a, b, c, d, e⟩ := x
  obtain ⟨a', b', c', d', e'⟩ := y
  simp only [less] at h1 h2
  split at h1
  · rename_i ha; subst ha
    simp only [if_true] at h2
    split at h1
    · rename_i hb; subst hb
      simp only [if_true] at h2
      split at h1
      · rename_i hc; subst hc
        simp only [if_true] at h2
        split at h1
        · rename_i hd; subst hd
          simp only [if_true] at h2
          simp at h1 h2
          obtain rfl : e = e' := by omega
          rfl
        · rename_i hd; rw [if_neg (fun h => hd h.symm)] at h2; simp at h1 h2; omega
      · rename_i hc; rw [if_neg (fun h => hc h.symm)] at h2; simp at h1 h2; omega
    · rename_i hb; rw [if_neg (fun h => hb h.symm)] at h2; simp at h1 h2; omega
  · rename_i ha; rw [if_neg (fun h => ha h.symm)] at h2; simp at h1 h2; omega

theorem less_iff (x y : E5) : less x y = true ↔ x.a < y.a ∨ x.a = y.a ∧ (x.b < y.b ∨ x.b = y.b ∧ (x.c < y.c ∨ x.c = y.c ∧ (x.d < y.d ∨ x.d = y.d ∧ x.e < y.e))) := by
  unfold less
  split <;> rename_i h1
  · split <;> rename_i h2
    · split <;> rename_i h3
      · split <;> rename_i h4
        · simp [h1, h2, h3, h4]
        · simp [h1, h2, h3, h4]
      · simp [h1, h2, h3]
    · simp [h1, h2]
  · simp [h1]
theorem less_false (x y : E5) : less x y = false ↔ ¬ (x.a < y.a ∨ x.a = y.a ∧ (x.b < y.b ∨ x.b = y.b ∧ (x.c < y.c ∨ x.c = y.c ∧ (x.d < y.d ∨ x.d = y.d ∧ x.e < y.e)))) := by
  rw [← less_iff]; cases less x y <;> simp

/-- The order of the merge: x may stand ahead of y. -/
def le5 (x y : E5) : Bool := !(less y x)
theorem le5_trans (x y z : E5) (h1 : le5 x y = true) (h2 : le5 y z = true) : le5 x z = true := by
  simp only [le5, Bool.not_eq_true', less_false] at *; omega
theorem le5_total (x y : E5) : (le5 x y || le5 y x) = true := by
  simp only [le5]
  cases h : less y x with
  | false => simp
  | true =>
    have : less x y = false := by rw [less_iff] at h; rw [less_false]; omega
    simp [this]

def Sorted5 (l : List E5) : Prop := l.Pairwise fun x y => le5 x y = true

theorem sorted_unique {x y : List E5} (hx : Sorted5 x) (hy : Sorted5 y) (h : x.Perm y) : x = y := by
  refine List.Perm.eq_of_pairwise (le := fun x y => le5 x y = true) ?_ hx hy h
  intro a b _ _ h1 h2
  simp only [le5, Bool.not_eq_true'] at h1 h2
  exact less_false_total h2 h1

/-! ### Heaps -/
def gt (l : List E5) (i : Nat) : E5 := l.getD i e0
theorem gt_set (l : List E5) (i j : Nat) (x : E5) (hi : i < l.length) : gt (l.set i x) j = if j = i then x else gt l j := by
  unfold gt
  by_cases h : j = i
  · subst h; simp [List.getD, hi]
  · simp [List.getD, h, Ne.symm h]
theorem gt_of_lt {l : List E5} {i : Nat} (h : i < l.length) : gt l i = l[i] := by simp [gt, List.getD, h]

def IsHeap (m : Nat) (L : Nat → E5) : Prop := ∀ j, 1 ≤ j → j < m → bef (L j) (L ((j - 1) / 2)) = false

theorem IsHeap.min {m : Nat} {L : Nat → E5} (h : IsHeap m L) : ∀ j, j < m → bef (L j) (L 0) = false := by
  intro j
  induction j using Nat.strongRecOn with
  | ind j ih =>
    intro hj
    by_cases h0 : j = 0
    · subst h0; exact bef_irrefl _
    · exact bef_trans (ih ((j - 1) / 2) (by omega) (by omega)) (h j (by omega) hj)

/-- A heap but between place i and its children. -/
def HeapDown (m i : Nat) (L : Nat → E5) : Prop :=
  (∀ j, 1 ≤ j → j < m → (j - 1) / 2 ≠ i → bef (L j) (L ((j - 1) / 2)) = false) ∧
  (∀ j, 1 ≤ j → j < m → (j - 1) / 2 = i → 1 ≤ i → bef (L j) (L ((i - 1) / 2)) = false)

theorem HeapDown.stop_leaf {m i : Nat} {L : Nat → E5} (h : HeapDown m i L) (hl : m ≤ 2 * i + 1) : IsHeap m L :=
  fun j h1 h2 => h.1 j h1 h2 (by omega)
/-- c: the child that no child comes before; and it does not come before the one at i. -/
theorem HeapDown.stop {m i c : Nat} {L : Nat → E5} (h : HeapDown m i L) (hmin : ∀ j, j < m → (j - 1) / 2 = i → 1 ≤ j → bef (L j) (L c) = false) (hc : bef (L c) (L i) = false) : IsHeap m L := by
  intro j h1 h2
  by_cases e : (j - 1) / 2 = i
  · rw [e]; exact bef_trans hc (hmin j h2 e h1)
  · exact h.1 j h1 h2 e
theorem HeapDown.step {m i c : Nat} {L L' : Nat → E5} (h : HeapDown m i L) (hcm : c < m) (hci : (c - 1) / 2 = i) (hc1 : 1 ≤ c)
    (hmin : ∀ j, j < m → (j - 1) / 2 = i → 1 ≤ j → bef (L j) (L c) = false) (hc : bef (L c) (L i) = true)
    (e1 : L' i = L c) (e2 : L' c = L i) (e3 : ∀ j, j ≠ i → j ≠ c → L' j = L j) : HeapDown m c L' := by
  have hic : i < c := by omega
  refine ⟨fun j h1 h2 h3 => ?_, fun j h1 h2 h3 _ => ?_⟩
  · by_cases a : j = c
    · subst a; rw [hci, e1, e2]; exact bef_asymm hc
    · by_cases b : (j - 1) / 2 = i
      · rw [b, e1, e3 j (by omega) a]; exact hmin j h2 b h1
      · by_cases d : j = i
        · subst d; rw [e1, e3 _ (by omega) (by omega)]; exact h.2 c hc1 hcm hci h1
        · rw [e3 j d a, e3 _ b h3]; exact h.1 j h1 h2 b
  · rw [hci, e1, e3 j (by omega) (by omega)]
    have := h.1 j h1 h2 (by omega)
    rwa [h3] at this

/-- A heap but between place i and its parent. -/
def HeapUp (m i : Nat) (L : Nat → E5) : Prop :=
  (∀ j, 1 ≤ j → j < m → j ≠ i → bef (L j) (L ((j - 1) / 2)) = false) ∧
  (∀ j, 1 ≤ j → j < m → (j - 1) / 2 = i → 1 ≤ i → bef (L j) (L ((i - 1) / 2)) = false)
theorem HeapUp.stop {m i : Nat} {L : Nat → E5} (h : HeapUp m i L) (hs : 1 ≤ i → bef (L i) (L ((i - 1) / 2)) = false) : IsHeap m L := by
  intro j h1 h2
  by_cases e : j = i
  · subst e; exact hs h1
  · exact h.1 j h1 h2 e
theorem HeapUp.step {m i p : Nat} {L L' : Nat → E5} (h : HeapUp m i L) (hi1 : 1 ≤ i) (him : i < m) (hp : (i - 1) / 2 = p) (hb : bef (L i) (L p) = true)
    (e1 : L' i = L p) (e2 : L' p = L i) (e3 : ∀ j, j ≠ i → j ≠ p → L' j = L j) : HeapUp m p L' := by
  have hpi : p < i := by omega
  refine ⟨fun j h1 h2 h3 => ?_, fun j h1 h2 h3 h4 => ?_⟩
  · by_cases a : j = i
    · subst a; rw [hp, e1, e2]; exact bef_asymm hb
    · by_cases b : (j - 1) / 2 = i
      · rw [b, e1, e3 j a h3]
        have := h.2 j h1 h2 b hi1
        rwa [hp] at this
      · by_cases d : (j - 1) / 2 = p
        · rw [d, e2, e3 j a h3]
          have := h.1 j h1 h2 a
          rw [d] at this
          exact bef_trans' hb this
        · rw [e3 j a h3, e3 _ b d]; exact h.1 j h1 h2 a
  · have hpp := h.1 p h4 (by omega) (by omega)
    rw [e3 ((p - 1) / 2) (by omega) (by omega)]
    by_cases a : j = i
    · subst a; rw [e1]; exact hpp
    · rw [e3 j a (by omega)]
      have := h.1 j h1 h2 a
      rw [h3] at this
      exact bef_trans hpp this
theorem HeapUp.start {m : Nat} {L : Nat → E5} (h : IsHeap m L) : HeapUp (m + 1) m L :=
  ⟨fun j h1 h2 h3 => h j h1 (by omega), fun j h1 h2 h3 _ => by omega⟩

theorem IsHeap.congr {m : Nat} {L L' : Nat → E5} (h : IsHeap m L) (e : ∀ j, j < m → L' j = L j) : IsHeap m L' :=
  fun j h1 h2 => by rw [e j h2, e _ (by omega)]; exact h j h1 h2
theorem HeapUp.congr {m i : Nat} {L L' : Nat → E5} (h : HeapUp m i L) (hi : i < m) (e : ∀ j, j < m → L' j = L j) : HeapUp m i L' :=
  ⟨fun j h1 h2 h3 => by rw [e j h2, e _ (by omega)]; exact h.1 j h1 h2 h3, fun j h1 h2 h3 h4 => by rw [e j h2, e _ (by omega)]; exact h.2 j h1 h2 h3 h4⟩

/-! ### Permutations -/
theorem perm_swap_set (l : List E5) (i j : Nat) (hi : i < l.length) (hj : j < l.length) : ((l.set i l[j]).set j l[i]).Perm l := by
  exact List.set_set_perm hi hj
end Go.Proofs.Qxb6001094a

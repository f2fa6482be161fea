import Derived.Test.Qxb6001094aJ4
import Derived.Deep.AppendLies
namespace Go.Proofs.Qxb6001094a
open Go.RowKit Go.Deep

/-! ### What the judge is asked, and what it answers: plain -/
structure Jd where
  n : Nat
  Cr : Nat → Int
  fin : Int
  af : Int
  S : Nat → Nat → Int
  acc : Bool

namespace Jd
variable (j : Jd)
def cor (i : Nat) : Bool := j.Cr i == j.fin
def ba (q : Nat) : Nat → Int
  | 0 => 0
  | k + 1 => if j.cor k then max (ba q k) (j.S k q) else ba q k
def okTo (q k : Nat) : Bool := (List.range k).all fun p => !(j.cor p) || decide (0 ≤ j.S p q)
def det (q : Nat) : Option Int := if j.okTo q j.n then some (j.ba q j.n) else none
def dl (k : Nat) : List Nat := (List.range k).filter fun q => !(j.cor q)
def complete (k : Nat) : Bool := (j.dl k).all fun q => (j.det q).isSome
def rowWrong (p m : Nat) : Bool := (List.range m).any fun q => j.cor p && j.cor q && decide (0 ≤ j.S p q)
def wrongTo (p : Nat) : Bool := (List.range p).any fun p => j.rowWrong p j.n
def ea (p m : Nat) : Bool := j.acc && !((j.wrongTo p || j.rowWrong p m) && decide (j.af < j.fin))

theorem ba_nonneg (q k : Nat) : 0 ≤ j.ba q k := by
  induction k with
  | zero => simp [ba]
  | succ k ih => unfold ba; split <;> omega
theorem okTo_zero (q : Nat) : j.okTo q 0 = true := by simp [okTo]
theorem okTo_succ (q k : Nat) : j.okTo q (k + 1) = (j.okTo q k && (!(j.cor k) || decide (0 ≤ j.S k q))) := by
  simp [okTo, List.range_succ]
theorem okTo_bad {q p k : Nat} (hp : p < k) (hc : j.cor p = true) (hs : j.S p q < 0) : j.okTo q k = false := by
  rw [okTo, List.all_eq_false]
  exact ⟨p, List.mem_range.2 hp, by simp [hc, hs]⟩
theorem dl_succ_yes {k : Nat} (h : j.cor k = true) : j.dl (k + 1) = j.dl k := by
  simp [dl, List.range_succ, h]
theorem dl_succ_no {k : Nat} (h : j.cor k = false) : j.dl (k + 1) = j.dl k ++ [k] := by
  simp [dl, List.range_succ, h]
theorem dl_length_le (k : Nat) : (j.dl k).length ≤ k := by
  have := List.length_filter_le (fun q => !(j.cor q)) (List.range k)
  simpa [dl] using this
theorem complete_yes {k : Nat} (h : j.cor k = true) : j.complete (k + 1) = j.complete k := by
  simp [complete, j.dl_succ_yes h]
theorem complete_no {k : Nat} (h : j.cor k = false) : j.complete (k + 1) = (j.complete k && (j.det k).isSome) := by
  simp [complete, j.dl_succ_no h]
theorem rowWrong_succ (p m : Nat) : j.rowWrong p (m + 1) = (j.rowWrong p m || (j.cor p && j.cor m && decide (0 ≤ j.S p m))) := by
  simp [rowWrong, List.range_succ]
theorem wrongTo_succ (p : Nat) : j.wrongTo (p + 1) = (j.wrongTo p || j.rowWrong p j.n) := by
  simp [wrongTo, List.range_succ]
theorem rowWrong_zero (p : Nat) : j.rowWrong p 0 = false := by simp [rowWrong]
end Jd

/-! ### Cells of the detections -/
def ptrV (p : Option Nat) : Value := .pointer (p.map fun g => ⟨g, 0, none⟩)
def cellsD (j : Jd) (l : List Nat) (P : Nat → Option Nat) : List Value := l.flatMap fun (q : Nat) => [.int .i64 ((q : Int) + 1), .int .i64 (j.Cr q), ptrV (P q)]
theorem cellsD_snoc (j : Jd) (l : List Nat) (q : Nat) (P : Nat → Option Nat) : cellsD j (l ++ [q]) P = cellsD j l P ++ [.int .i64 ((q : Int) + 1), .int .i64 (j.Cr q), ptrV (P q)] := by
  simp [cellsD]
theorem cellsD_congr (j : Jd) (l : List Nat) (P P' : Nat → Option Nat) (h : ∀ q ∈ l, P q = P' q) : cellsD j l P = cellsD j l P' := by
  induction l with
  | nil => rfl
  | cons x l ih =>
    have hx := h x (by simp)
    have hl := ih (fun q hq => h q (by simp [hq]))
    simp only [cellsD, List.flatMap_cons] at hl ⊢
    rw [hx, hl]
theorem cellsD_length (j : Jd) (l : List Nat) (P : Nat → Option Nat) : (cellsD j l P).length = l.length * 3 := by
  induction l with
  | nil => rfl
  | cons x l ih => simp [cellsD] at ih ⊢; omega
theorem cellsD_get (j : Jd) (l : List Nat) (P : Nat → Option Nat) (i : Nat) (h : i < l.length) :
    (cellsD j l P)[i * 3]? = some (.int .i64 ((l[i] : Int) + 1)) ∧ (cellsD j l P)[i * 3 + 1]? = some (.int .i64 (j.Cr l[i])) ∧ (cellsD j l P)[i * 3 + 2]? = some (ptrV (P l[i])) := by
  induction l generalizing i with
  | nil => simp at h
  | cons x l ih =>
    cases i with
    | zero => simp [cellsD]
    | succ i =>
      have := ih i (by simpa using h)
      have e : cellsD j (x :: l) P = [.int .i64 ((x : Int) + 1), .int .i64 (j.Cr x), ptrV (P x)] ++ cellsD j l P := by simp [cellsD]
      rw [e]
      simp only [List.getElem_cons_succ]
      refine ⟨?_, ?_, ?_⟩
      · rw [List.getElem?_append_right (by simp; omega)]
        rw [show (i + 1) * 3 - [Value.int .i64 ((x : Int) + 1), .int .i64 (j.Cr x), ptrV (P x)].length = i * 3 by simp; omega]; exact this.1
      · rw [List.getElem?_append_right (by simp; omega)]
        rw [show (i + 1) * 3 + 1 - [Value.int .i64 ((x : Int) + 1), .int .i64 (j.Cr x), ptrV (P x)].length = i * 3 + 1 by simp; omega]; exact this.2.1
      · rw [List.getElem?_append_right (by simp; omega)]
        rw [show (i + 1) * 3 + 2 - [Value.int .i64 ((x : Int) + 1), .int .i64 (j.Cr x), ptrV (P x)].length = i * 3 + 2 by simp; omega]; exact this.2.2
theorem cellsD_one (j : Jd) (l : List Nat) (P : Nat → Option Nat) : ∀ u ∈ cellsD j l P, u.oneCell' = true := by
  intro u hu
  simp only [cellsD, List.mem_flatMap] at hu
  obtain ⟨q, _, hq⟩ := hu
  simp at hq
  rcases hq with rfl | rfl | rfl <;> rfl

/-- The pointer of a detection: nil where it has no time; else to a cell of its own that holds it. -/
def PtrOk (w : World) (x : Option Int) (p : Option Nat) : Prop :=
  match x with
  | none => p = none
  | some v => ∃ g, p = some g ∧ w.heap[g]? = some (.cells #[.int .i64 v] 3)

theorem PtrOk.of_heap {w w' : World} {x : Option Int} {p : Option Nat} (h : PtrOk w x p) (hw : ∀ (g : Nat) (c : Array Value), w.heap[g]? = some (.cells c 3) → w'.heap[g]? = w.heap[g]?) : PtrOk w' x p := by
  cases x with
  | none => exact h
  | some v =>
    obtain ⟨g, h1, h2⟩ := h
    exact ⟨g, h1, (hw g _ h2).trans h2⟩

theorem ownsRow_of_heap {w w' : World} {base e size n : Nat} {v : Value} {xs : List Value} (h : w.ownsRow base e size v n xs) (hw : ∀ (g : Nat) (c : Array Value), w.heap[g]? = some (.cells c e) → w'.heap[g]? = w.heap[g]?) : w'.ownsRow base e size v n xs := by
  obtain ⟨h1, h2 | ⟨g, cap, cur, a1, a2, a3, a4⟩⟩ := h
  · exact ⟨h1, .inl h2⟩
  · exact ⟨h1, .inr ⟨g, cap, cur, a1, a2, (hw g _ a3).trans a3, a4⟩⟩

/-- conclude, after k rounds of its first loop. -/
structure ConR (j : Jd) (w wr : World) (k g cap : Nat) (P : Nat → Option Nat) : Prop where
  own : wr.ownsRow w.heap.size 50 3 (.slice (some ⟨g, 0, none⟩) (j.dl k).length cap) (j.dl k).length (cellsD j (j.dl k) P)
  ptr : ∀ q ∈ j.dl k, PtrOk wr (j.det q) (P q)
  res : wr.heap[w.heap.size]? = some (.cells #[.bool false, .bool false] 45)
  ver : wr.heap[w.heap.size + 1]? = some (.cells #[.bool (j.complete k), .bool j.acc] 45)
  bel : Below w.heap.size w wr
end Go.Proofs.Qxb6001094a

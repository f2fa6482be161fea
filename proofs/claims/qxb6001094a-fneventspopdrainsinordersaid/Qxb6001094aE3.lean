import Derived.Test.Qxb6001094aE2
namespace Go.Proofs.Qxb6001094a
open Go.RowKit Go.Deep

def cells5 (x : E5) : List Value := [.int .i64 x.a, .int .i64 x.b, .int .i64 x.c, .int .i64 x.d, .int .i64 x.e]
def flat (l : List E5) : List Value := l.flatMap cells5
theorem flat_nil : flat [] = [] := rfl
theorem flat_append (l m : List E5) : flat (l ++ m) = flat l ++ flat m := by simp [flat]
theorem flat_one (x : E5) : flat [x] = cells5 x := by simp [flat]
theorem flat_length (l : List E5) : (flat l).length = l.length * 5 := by
  induction l with
  | nil => rfl
  | cons x l ih =>
    have : flat (x :: l) = cells5 x ++ flat l := by simp [flat]
    rw [this, List.length_append, ih]; simp [cells5]; omega
theorem flat_oneCell (l : List E5) : ∀ u ∈ flat l, u.oneCell' = true := by
  intro u hu
  simp only [flat, List.mem_flatMap] at hu
  obtain ⟨q, _, hq⟩ := hu
  simp [cells5] at hq
  rcases hq with rfl | rfl | rfl | rfl | rfl <;> rfl
theorem flat_get (l : List E5) (i k : Nat) (hi : i < l.length) (hk : k < 5) : (flat l)[i * 5 + k]? = (cells5 (gt l i))[k]? := by
  induction l generalizing i with
  | nil => simp at hi
  | cons x l ih =>
    have e : flat (x :: l) = cells5 x ++ flat l := by simp [flat]
    have hc : (cells5 x).length = 5 := rfl
    rw [e]
    cases i with
    | zero => rw [List.getElem?_append_left (by omega)]; simp [gt]
    | succ i =>
      rw [List.getElem?_append_right (by omega), show (i + 1) * 5 + k - (cells5 x).length = i * 5 + k by omega, ih i (by simpa using hi)]
      simp [gt]
theorem flat_set (l : List E5) (i : Nat) (x : E5) (hi : i < l.length) :
    flat (l.set i x) = (((((flat l).set (i * 5) (.int .i64 x.a)).set (i * 5 + 1) (.int .i64 x.b)).set (i * 5 + 2) (.int .i64 x.c)).set (i * 5 + 3) (.int .i64 x.d)).set (i * 5 + 4) (.int .i64 x.e) := by
  induction l generalizing i with
  | nil => simp at hi
  | cons y l ih =>
    have e : ∀ (z : E5) (m : List E5), flat (z :: m) = cells5 z ++ flat m := fun z m => by simp [flat]
    cases i with
    | zero => rw [List.set_cons_zero, e, e]; simp [cells5]
    | succ i =>
      rw [List.set_cons_succ, e, e, ih i (by simpa using hi)]
      have h5 : ∀ (L : List Value) (k : Nat) (v : Value), (cells5 y ++ L).set ((i + 1) * 5 + k) v = cells5 y ++ L.set (i * 5 + k) v := by
        intro L k v
        rw [List.set_append_right _ _ (by simp [cells5]; omega)]
        congr 2
        simp [cells5]; omega
      have h0 := h5 (flat l) 0
      simp only [Nat.add_zero] at h0
      rw [h0, h5, h5, h5, h5]

/-- A row of events in a block of the call's own. -/
def OwnEv (w : World) (t : TypeId) (g cap : Nat) (l : List E5) : Prop := w.ownsRow 0 t 5 (.slice (some ⟨g, 0, none⟩) l.length cap) l.length (flat l)

theorem OwnEv.at5 {w : World} {t : TypeId} {g cap : Nat} {l : List E5} (h : OwnEv w t g cap l) {i : Nat} (hi : i < l.length) : At5 w g (i * 5) (gt l i) := by
  have hk : ∀ k, k < 5 → w.cell? ⟨g, i * 5 + k, none⟩ = (cells5 (gt l i))[k]? := fun k hk => by
    rw [h.cellAt _ (by omega), flat_get l i k hi hk]
  exact ⟨hk 0 (by omega), hk 1 (by omega), hk 2 (by omega), hk 3 (by omega), hk 4 (by omega)⟩
theorem OwnEv.evs {w : World} {t : TypeId} {g cap : Nat} {l : List E5} (h : OwnEv w t g cap l) : EvsIn w (some ⟨g, 0, none⟩) l :=
  .inr ⟨g, 0, rfl, fun i hi => by rw [Nat.zero_add]; exact h.at5 hi⟩
theorem OwnEv.lt {w : World} {t : TypeId} {g cap : Nat} {l : List E5} (h : OwnEv w t g cap l) : g < w.heap.size := (World.ownsRow.lt h g rfl).2
theorem OwnEv.block {w : World} {t : TypeId} {g cap : Nat} {l : List E5} (h : OwnEv w t g cap l) : ∃ cur, w.heap[g]? = some (.cells cur t) := by
  obtain ⟨_, ⟨h1, _⟩ | ⟨g1, c1, cur, h1, _, h2, _⟩⟩ := h
  · cases h1
  · cases h1; exact ⟨cur, h2⟩
theorem OwnEv.of_block {w w' : World} {t : TypeId} {g cap : Nat} {l : List E5} (h : OwnEv w t g cap l) (hw : w'.heap[g]? = w.heap[g]?) : OwnEv w' t g cap l := by
  obtain ⟨a, ⟨h1, _⟩ | ⟨g1, c1, cur, h1, h3, h2, h4⟩⟩ := h
  · cases h1
  · cases h1; exact ⟨a, .inr ⟨_, _, cur, rfl, h3, hw.trans h2, h4⟩⟩
theorem OwnEv.below {w w' : World} {t : TypeId} {g cap : Nat} {l : List E5} (h : OwnEv w t g cap l) (hb : Below w.heap.size w w') : OwnEv w' t g cap l :=
  h.of_block (hb.block g h.lt)

theorem info29 : (Try.prog.info? 29).map (fun i => (i.zero, i.size, i.bytes)) = some (some (.agg #[.int .i64 0, .int .i64 0, .int .i64 0, .int .i64 0, .int .i64 0]), 5, 40) := by kernel_rfl
theorem info32 : (Try.prog.info? 32).map (fun i => (i.zero, i.size, i.bytes)) = some (some (.agg #[.int .i64 0, .int .i64 0, .int .i64 0, .int .i64 0, .int .i64 0]), 5, 40) := by kernel_rfl

/-! ### The small callees -/
set_option maxHeartbeats 400000 in
theorem makeEvent_any (x : E5) (w : World) : Calls Try.prog 38 #[.int .i64 x.a, .int .i64 x.b, .int .i64 x.c, .int .i64 x.d, .int .i64 x.e] w fun e w' => e = .returned x.val ∧ Below w.heap.size w w' := by
  unfold E5.val
  go_enter Try.func38, Try.ntmps38
  go_wp2
  exact bodyPost_ret (v := .agg #[.int .i64 x.a, .int .i64 x.b, .int .i64 x.c, .int .i64 x.d, .int .i64 x.e]) (by simp [results, Try.results38, go_sem]) rfl ⟨rfl, (Below.refl _ _).alloc (Nat.le_refl _) _⟩

set_option maxHeartbeats 400000 in
theorem fields_any (x : E5) (w : World) : Calls Try.prog 39 #[x.val] w fun e w' => e = .returned (.tuple #[.int .i64 x.a, .int .i64 x.b, .int .i64 x.c, .int .i64 x.d, .int .i64 x.e]) ∧ Below w.heap.size w w' := by
  unfold E5.val
  go_enter Try.func39, Try.ntmps39
  go_wp2
  go_quiet (fail)
  go_wp2
  exact bodyPost_ret (v := .tuple #[.int .i64 x.a, .int .i64 x.b, .int .i64 x.c, .int .i64 x.d, .int .i64 x.e]) (by simp [results, Try.results39, go_sem]) rfl ⟨rfl, ((Below.refl _ _).alloc (Nat.le_refl _) _).trans ⟨rfl, rfl, rfl, Nat.le_refl _, fun _ _ => rfl⟩⟩

/-! ### A struct of five laid over five cells -/
def put5 (w : World) (b o : Nat) (x : E5) : World :=
  ((((w.setCell ⟨b, o, none⟩ (.int .i64 x.a)).setCell ⟨b, o + 1, none⟩ (.int .i64 x.b)).setCell ⟨b, o + 2, none⟩ (.int .i64 x.c)).setCell ⟨b, o + 3, none⟩ (.int .i64 x.d)).setCell ⟨b, o + 4, none⟩ (.int .i64 x.e)
/-- A block that is one event. -/
def Box5 (w : World) (b : Nat) (t : TypeId) (x : E5) : Prop := w.heap[b]? = some (.cells #[.int .i64 x.a, .int .i64 x.b, .int .i64 x.c, .int .i64 x.d, .int .i64 x.e] t)
theorem put5_other {w : World} {b o k : Nat} {x : E5} (h : k ≠ b) : (put5 w b o x).heap[k]? = w.heap[k]? := by
  unfold put5
  rw [Below.heap_setCell _ _ _ _ (by simpa using h), Below.heap_setCell _ _ _ _ (by simpa using h), Below.heap_setCell _ _ _ _ (by simpa using h), Below.heap_setCell _ _ _ _ (by simpa using h), Below.heap_setCell _ _ _ _ (by simpa using h)]
theorem put5_below {w0 w : World} {B b o : Nat} {x : E5} (hb : Below B w0 w) (h : B ≤ b) : Below B w0 (put5 w b o x) :=
  ((((hb.setCell h _).setCell h _).setCell h _).setCell h _).setCell h _
theorem put5_own {w : World} {t : TypeId} {g cap i : Nat} {l : List E5} {x : E5} (h : OwnEv w t g cap l) (hi : i < l.length) : OwnEv (put5 w g (i * 5) x) t g cap (l.set i x) := by
  unfold OwnEv put5 at *
  rw [flat_set l i x hi, List.length_set]
  exact ((((((((h.stored (i * 5) _).1).stored (i * 5 + 1) _).1).stored (i * 5 + 2) _).1).stored (i * 5 + 3) _).1).stored (i * 5 + 4) _ |>.1
theorem blk_setCell' {w : World} {b o : Nat} {c : Array Value} {t : TypeId} (h : w.heap[b]? = some (.cells c t)) (u : Value) : (w.setCell ⟨b, o, none⟩ u).heap[b]? = some (.cells (c.setIfInBounds o u) t) := by
  simp [World.setCell, Array.getElem?_modify, h]
theorem put5_box {w : World} {b : Nat} {t : TypeId} {x y : E5} (h : Box5 w b t y) : Box5 (put5 w b 0 x) b t x := by
  unfold Box5 put5 at *
  rw [blk_setCell' (blk_setCell' (blk_setCell' (blk_setCell' (blk_setCell' h _) _) _) _)]
  simp
theorem cell_blk' {w : World} {b o : Nat} {c : Array Value} {t : TypeId} {v : Value} (h : w.heap[b]? = some (.cells c t)) (hv : c[o]? = some v) : w.cell? ⟨b, o, none⟩ = some v := by
  simp [World.cell?, h, hv]
theorem free_blk' {w : World} {b : Nat} {c : Array Value} {t : TypeId} (h : w.heap[b]? = some (.cells c t)) (o : Nat) : w.frozen? ⟨b, o, none⟩ = false := by
  simp [World.frozen?, h]
theorem Box5.cells {w : World} {b : Nat} {t : TypeId} {x : E5} (h : Box5 w b t x) :
    w.cell? ⟨b, 0, none⟩ = some (.int .i64 x.a) ∧ w.cell? ⟨b, 1, none⟩ = some (.int .i64 x.b) ∧ w.cell? ⟨b, 2, none⟩ = some (.int .i64 x.c) ∧ w.cell? ⟨b, 3, none⟩ = some (.int .i64 x.d) ∧ w.cell? ⟨b, 4, none⟩ = some (.int .i64 x.e) ∧
    w.frozen? ⟨b, 0, none⟩ = false ∧ w.frozen? ⟨b, 1, none⟩ = false ∧ w.frozen? ⟨b, 2, none⟩ = false ∧ w.frozen? ⟨b, 3, none⟩ = false ∧ w.frozen? ⟨b, 4, none⟩ = false :=
  ⟨cell_blk' h rfl, cell_blk' h rfl, cell_blk' h rfl, cell_blk' h rfl, cell_blk' h rfl, free_blk' h _, free_blk' h _, free_blk' h _, free_blk' h _, free_blk' h _⟩
theorem Box5.below {w w' : World} {b : Nat} {t : TypeId} {x : E5} (h : Box5 w b t x) (hb : Below w.heap.size w w') : Box5 w' b t x := (hb.block b (lt_of_block h)).trans h

set_option maxHeartbeats 400000 in
theorem fromEvent_any (x : E5) (w : World) : Calls Try.prog 15 #[x.val] w fun e w' => e = .returned x.val ∧ Below w.heap.size w w' := by
  unfold E5.val
  have hB : Box5 ((w.alloc (.cells #[.int .i64 x.a, .int .i64 x.b, .int .i64 x.c, .int .i64 x.d, .int .i64 x.e] 32)).alloc (.cells #[.int .i64 0, .int .i64 0, .int .i64 0, .int .i64 0, .int .i64 0] 29)) (w.heap.size + 1) 29 e0 := by
    have := heap_alloc_new (w.alloc (.cells #[.int .i64 x.a, .int .i64 x.b, .int .i64 x.c, .int .i64 x.d, .int .i64 x.e] 32)) (.cells #[.int .i64 0, .int .i64 0, .int .i64 0, .int .i64 0, .int .i64 0] 29)
    simpa [Box5, e0] using this
  have HB : Hid (Box5 _ _ _ _) := hB
  clear hB
  go_enter Try.func15, Try.ntmps15
  go_wp2_with fail
  refine (fields_any x _).mono ?_
  rintro e w1 ⟨rfl, hb1⟩
  have hB1 := HB.out.below hb1
  have hbl := (two_boxes w (.cells #[.int .i64 x.a, .int .i64 x.b, .int .i64 x.c, .int .i64 x.d, .int .i64 x.e] 32) (.cells #[.int .i64 0, .int .i64 0, .int .i64 0, .int .i64 0, .int .i64 0] 29)).trans (hb1.mono (by simp; omega))
  clear hb1 HB
  obtain ⟨k0, k1, k2, k3, k4, f0, f1, f2, f3, f4⟩ := hB1.cells
  go_wp2
  have hP := put5_box (x := x) hB1
  obtain ⟨z0, z1, z2, z3, z4, -⟩ := hP.cells
  simp only [put5, Nat.zero_add] at z0 z1 z2 z3 z4
  exact bodyPost_ret (v := .agg #[.int .i64 x.a, .int .i64 x.b, .int .i64 x.c, .int .i64 x.d, .int .i64 x.e]) (by simp [results, Try.results15, go_sem, z0, z1, z2, z3, z4]) rfl ⟨rfl, put5_below hbl (by omega)⟩
end Go.Proofs.Qxb6001094a

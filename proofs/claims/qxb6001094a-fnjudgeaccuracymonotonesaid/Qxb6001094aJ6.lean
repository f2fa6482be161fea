import Derived.Test.Qxb6001094aJ5
import Derived.Test.Qxb6001094aJ1
import Derived.Deep.DeepMust
import Derived.Deep.CutBlock
import Derived.Deep.DeepCutAuto
namespace Go.Proofs.Qxb6001094a
open Go.RowKit Go.Deep

/-- The judge as it lies in block J, its slices in blocks from lo on. -/
structure JudgeAt (j : Jd) (w : World) (J lo : Nat) : Prop where
  small : j.n ≤ 131072
  cells : ∃ aC cC aS cS, w.heap[J]? = some (.cells #[.slice aC j.n cC, .int .i64 j.fin, .int .i64 j.af, .slice aS j.n cS, .int .i64 0, .bool j.acc] 74) ∧ IntsIn w lo aC j.n j.Cr ∧ GridIn w lo aS j.n j.S



/-- The same where there is at least one process: every cell that conclude reads. -/
structure JS (j : Jd) (w : World) (J gC cC gS cS : Nat) (G : Nat → Nat) : Prop where
  c0 : w.cell? ⟨J, 0, none⟩ = some (.slice (some ⟨gC, 0, none⟩) j.n cC)
  c1 : w.cell? ⟨J, 1, none⟩ = some (.int .i64 j.fin)
  c2 : w.cell? ⟨J, 2, none⟩ = some (.int .i64 j.af)
  c3 : w.cell? ⟨J, 3, none⟩ = some (.slice (some ⟨gS, 0, none⟩) j.n cS)
  hC : ∀ i, i < j.n → w.cell? ⟨gC, i, none⟩ = some (.int .i64 (j.Cr i))
  hS : ∀ r, r < j.n → w.cell? ⟨gS, r, none⟩ = some (.slice (some ⟨G r, 0, none⟩) j.n j.n)
  hG : ∀ r, r < j.n → ∀ i, i < j.n → w.cell? ⟨G r, i, none⟩ = some (.int .i64 (j.S r i))

theorem cell_below {w w' : World} {a : Addr} {v : Value} (hb : Below w.heap.size w w') (h : w.cell? a = some v) : w'.cell? a = some v :=
  (hb.cell (block_lt_of_cell h)).trans h

theorem JS.below {j : Jd} {w w' : World} {J gC cC gS cS : Nat} {G : Nat → Nat} (h : JS j w J gC cC gS cS G) (hb : Below w.heap.size w w') : JS j w' J gC cC gS cS G :=
  ⟨cell_below hb h.c0, cell_below hb h.c1, cell_below hb h.c2, cell_below hb h.c3, fun i hi => cell_below hb (h.hC i hi), fun i hi => cell_below hb (h.hS i hi), fun r hr i hi => cell_below hb (h.hG r hr i hi)⟩

theorem JudgeAt.js {j : Jd} {w : World} {J lo : Nat} (h : JudgeAt j w J lo) (h0 : 0 < j.n) : ∃ gC cC gS cS G, JS j w J gC cC gS cS G := by
  obtain ⟨_, aC, cC, aS, cS, hb, hC, hS⟩ := h
  rcases hC with e | ⟨gC, _, rfl, hrC⟩
  · omega
  rcases hS with e | ⟨gS, G, _, rfl, hrS, hG⟩
  · omega
  have hG' : ∀ r, ∃ g', r < j.n → G r = some ⟨g', 0, none⟩ ∧ w.rowIs g' 3 j.n (fun i => .int .i64 (j.S r i)) := by
    intro r
    by_cases hr : r < j.n
    · rcases hG r hr with e | ⟨g', _, e, hr'⟩
      · omega
      · exact ⟨g', fun _ => ⟨e, hr'⟩⟩
    · exact ⟨0, fun h => absurd h hr⟩
  refine ⟨gC, cC, gS, cS, fun r => (hG' r).choose, ?_, ?_, ?_, ?_, fun i hi => hrC.cell hi, fun r hr => ?_, fun r hr i hi => ?_⟩
  · simp [World.cell?, hb]
  · simp [World.cell?, hb]
  · simp [World.cell?, hb]
  · simp [World.cell?, hb]
  · exact (hrS.cell hr).trans (congrArg (fun a => some (Value.slice a j.n j.n)) ((hG' r).choose_spec hr).1)
  · exact ((hG' r).choose_spec hr).2.cell hi

/-- A world that differs in draws alone. -/
def Drawn (w w' : World) : Prop := ∃ m, w' = w.drewN m
theorem Drawn.below {w w' : World} (h : Drawn w w') (B : Nat) : Below B w w' := by
  obtain ⟨m, rfl⟩ := h
  exact ⟨rfl, rfl, rfl, Nat.le_refl _, fun _ _ => rfl⟩
theorem Drawn.heap {w w' : World} (h : Drawn w w') : w'.heap = w.heap := by
  obtain ⟨m, rfl⟩ := h; rfl

theorem correct_at (j : Jd) (w : World) (J gC cC gS cS k : Nat) (G : Nat → Nat) (hn : j.n ≤ 131072) (hk : k < j.n) (hJ : JS j w J gC cC gS cS G) (b : Bool) (h : j.cor k = b) :
    Calls Try.prog 47 #[.pointer (some ⟨J, 0, none⟩), .int .i64 ((k : Int) + 1)] w fun e w' => e = .returned (.bool b) ∧ ∃ m, w' = w.drewN m := by
  refine (correct_any J gC 0 j.n cC _ j.fin (j.Cr k) w hn (by omega) (by omega) hJ.c0 hJ.c1 (by rw [show 0 + (((k : Int) + 1).toNat - 1) = k by omega]; exact hJ.hC k hk)).mono ?_
  rintro e w' ⟨rfl, hm⟩
  exact ⟨by rw [← h]; rfl, hm⟩
theorem correct_drawn (j : Jd) (w : World) (J gC cC gS cS k : Nat) (G : Nat → Nat) (hn : j.n ≤ 131072) (hk : k < j.n) (hJ : JS j w J gC cC gS cS G) (b : Bool) (h : j.cor k = b) :
    Calls Try.prog 47 #[.pointer (some ⟨J, 0, none⟩), .int .i64 ((k : Int) + 1)] w fun e w' => e = .returned (.bool b) ∧ Drawn w w' :=
  correct_at j w J gC cC gS cS k G hn hk hJ b h

theorem ConR.start (j : Jd) (w : World) : ConR j w (((w.alloc (.cells #[.bool false, .bool false] 45)).alloc (.cells #[.bool true, .bool j.acc] 45)).alloc (.cells #[] 50)) 0 (w.heap.size + 1 + 1) 0 (fun _ => none) where
  own := by
    have := World.ownsRow_made (base := w.heap.size) (e := 50) (size := 3) ((w.alloc (.cells #[.bool false, .bool false] 45)).alloc (.cells #[.bool true, .bool j.acc] 45)) #[] 0 (by simp; omega) (by simp [maxLen]) (by simp)
    simpa [Jd.dl, cellsD] using this
  ptr := by simp [Jd.dl]
  res := by
    rw [Below.heap_alloc _ _ _ (by simp; omega), Below.heap_alloc _ _ _ (by simp), heap_alloc_new]
  ver := by
    rw [Below.heap_alloc _ _ _ (by simp)]
    have := heap_alloc_new (w.alloc (.cells #[.bool false, .bool false] 45)) (.cells #[.bool true, .bool j.acc] 45)
    simpa [Jd.complete, Jd.dl] using this
  bel := (((Below.refl _ _).alloc (Nat.le_refl _) _).alloc (by simp) _).alloc (by simp; omega) _


theorem ConR.drawn {j : Jd} {w wr w1 : World} {k g cap : Nat} {P : Nat → Option Nat} (h : ConR j w wr k g cap P) (hd : Drawn wr w1) : ConR j w w1 k g cap P := by
  obtain ⟨m, rfl⟩ := hd
  exact ⟨h.own, h.ptr, h.res, h.ver, h.bel.trans (Drawn.below ⟨m, rfl⟩ _)⟩
theorem ConR.pass {j : Jd} {w wr : World} {k g cap : Nat} {P : Nat → Option Nat} (h : ConR j w wr k g cap P) (hc : j.cor k = true) : ConR j w wr (k + 1) g cap P := by
  refine ⟨?_, ?_, h.res, ?_, h.bel⟩
  · rw [j.dl_succ_yes hc]; exact h.own
  · rw [j.dl_succ_yes hc]; exact h.ptr
  · rw [j.complete_yes hc]; exact h.ver

/-- conclude's inner loop: d and byAll are the two new blocks. -/
structure InnerR (j : Jd) (w1 wi : World) (q : Nat) (x : Int) : Prop where
  bel : Below w1.heap.size w1 wi
  size : wi.heap.size = w1.heap.size + 2
  d : wi.heap[w1.heap.size]? = some (.cells #[.int .i64 ((q : Int) + 1), .int .i64 (j.Cr q), .pointer none] 50)
  y : wi.heap[w1.heap.size + 1]? = some (.cells #[.int .i64 x] 3)

theorem InnerR.start (j : Jd) (w1 : World) (q : Nat) : InnerR j w1 ((w1.alloc (.cells #[.int .i64 ((q : Int) + 1), .int .i64 (j.Cr q), .pointer none] 50)).alloc (.cells #[.int .i64 0] 3)) q 0 where
  bel := ((Below.refl _ _).alloc (Nat.le_refl _) _).alloc (by simp) _
  size := by simp
  d := by rw [Below.heap_alloc _ _ _ (by simp), heap_alloc_new]
  y := by
    have := heap_alloc_new (w1.alloc (.cells #[.int .i64 ((q : Int) + 1), .int .i64 (j.Cr q), .pointer none] 50)) (.cells #[.int .i64 0] 3)
    simpa using this
theorem InnerR.drawn {j : Jd} {w1 wi w2 : World} {q : Nat} {x : Int} (h : InnerR j w1 wi q x) (hd : Drawn wi w2) : InnerR j w1 w2 q x := by
  obtain ⟨m, rfl⟩ := hd
  exact ⟨h.bel.trans (Drawn.below ⟨m, rfl⟩ _), h.size, h.d, h.y⟩
theorem InnerR.put {j : Jd} {w1 wi : World} {q : Nat} {x : Int} (h : InnerR j w1 wi q x) (x' : Int) : InnerR j w1 (wi.setCell ⟨w1.heap.size + 1, 0, none⟩ (.int .i64 x')) q x' where
  bel := h.bel.setCell (by simp) _
  size := by simp [h.size]
  d := by rw [Below.heap_setCell _ _ _ _ (by simp)]; exact h.d
  y := one_setCell h.y

theorem JS.lt {j : Jd} {w : World} {J gC cC gS cS : Nat} {G : Nat → Nat} (h : JS j w J gC cC gS cS G) : J < w.heap.size := block_lt_of_cell h.c0

theorem cell_blk {w : World} {b o : Nat} {c : Array Value} {t : TypeId} {v : Value} (h : w.heap[b]? = some (.cells c t)) (hv : c[o]? = some v) : w.cell? ⟨b, o, none⟩ = some v := by
  simp [World.cell?, h, hv]
theorem free_blk {w : World} {b : Nat} {c : Array Value} {t : TypeId} (h : w.heap[b]? = some (.cells c t)) (o : Nat) : w.frozen? ⟨b, o, none⟩ = false := by
  simp [World.frozen?, h]
theorem blk_setCell {w : World} {b o : Nat} {c : Array Value} {t : TypeId} (h : w.heap[b]? = some (.cells c t)) (u : Value) : (w.setCell ⟨b, o, none⟩ u).heap[b]? = some (.cells (c.setIfInBounds o u) t) := by
  simp [World.setCell, Array.getElem?_modify, h]

/-- conclude, ahead of the append in the round of process k. -/
structure PreApp (j : Jd) (w w1 wc : World) (k : Nat) (p : Option Nat) : Prop where
  d : wc.heap[w1.heap.size]? = some (.cells #[.int .i64 ((k : Int) + 1), .int .i64 (j.Cr k), ptrV p] 50)
  ptr : PtrOk wc (j.det k) p
  ver : wc.heap[w.heap.size + 1]? = some (.cells #[.bool (j.complete (k + 1)), .bool j.acc] 45)
  old : ∀ b, b < w1.heap.size → b ≠ w.heap.size + 1 → wc.heap[b]? = w1.heap[b]?
  bel : Below w.heap.size w wc
  size : w1.heap.size ≤ wc.heap.size

theorem ConR.vlt {j : Jd} {w w1 : World} {k g cap : Nat} {P : Nat → Option Nat} (h : ConR j w w1 k g cap P) : w.heap.size + 1 < w1.heap.size := lt_of_block h.ver

theorem preApp_bad {j : Jd} {w w1 wc : World} {k g cap : Nat} {P : Nat → Option Nat} (h : ConR j w w1 k g cap P) (hcor : j.cor k = false) (hI : InnerR j w1 wc k (-1)) (hok : j.okTo k j.n = false) :
    PreApp j w w1 (wc.setCell ⟨w.heap.size + 1, 0, none⟩ (.bool false)) k none := by
  have hv := h.vlt
  have hdet : j.det k = none := by simp [Jd.det, hok]
  refine ⟨?_, ?_, ?_, ?_, ?_, ?_⟩
  · rw [Below.heap_setCell _ _ _ _ (by simp; omega)]; exact hI.d
  · rw [hdet]; rfl
  · rw [blk_setCell ((hI.bel.block _ hv).trans h.ver), j.complete_no hcor, hdet]; simp
  · intro b hb hne
    rw [Below.heap_setCell _ _ _ _ (by simpa using hne)]; exact hI.bel.block b hb
  · exact (h.bel.trans (hI.bel.mono (by omega))).setCell (by simp) _
  · simp [hI.size]

theorem preApp_ok {j : Jd} {w w1 wc : World} {k g cap : Nat} {P : Nat → Option Nat} (h : ConR j w w1 k g cap P) (hcor : j.cor k = false) (hI : InnerR j w1 wc k (j.ba k j.n)) (hok : j.okTo k j.n = true) :
    PreApp j w w1 (wc.setCell ⟨w1.heap.size, 2, none⟩ (.pointer (some ⟨w1.heap.size + 1, 0, none⟩))) k (some (w1.heap.size + 1)) := by
  have hv := h.vlt
  have hdet : j.det k = some (j.ba k j.n) := by simp [Jd.det, hok]
  refine ⟨?_, ?_, ?_, ?_, ?_, ?_⟩
  · rw [blk_setCell hI.d]; simp [ptrV]
  · rw [hdet]; exact ⟨_, rfl, by rw [Below.heap_setCell _ _ _ _ (by simp)]; exact hI.y⟩
  · rw [Below.heap_setCell _ _ _ _ (by simp; omega), hI.bel.block _ hv, h.ver, j.complete_no hcor, hdet]; simp
  · intro b hb hne
    rw [Below.heap_setCell _ _ _ _ (by simp; omega)]; exact hI.bel.block b hb
  · exact (h.bel.trans (hI.bel.mono (by omega))).setCell (by simp; omega) _
  · simp [hI.size]

theorem PreApp.own {j : Jd} {w w1 wc : World} {k g cap : Nat} {P : Nat → Option Nat} {p : Option Nat} (hA : PreApp j w w1 wc k p) (h : ConR j w w1 k g cap P) :
    wc.ownsRow w.heap.size 50 3 (.slice (some ⟨g, 0, none⟩) (j.dl k).length cap) (j.dl k).length (cellsD j (j.dl k) P) := by
  refine ownsRow_of_heap h.own (fun b c hb => ?_)
  refine hA.old b (lt_of_block hb) (fun e => ?_)
  rw [e, h.ver] at hb
  simp at hb

/-- The round's end: behind the append. -/
theorem PreApp.done {j : Jd} {w w1 wc w3 : World} {k g cap g' cap' : Nat} {P : Nat → Option Nat} {p : Option Nat} {o : Obj} (hA : PreApp j w w1 wc k p) (h : ConR j w w1 k g cap P) (hcor : j.cor k = false)
    (hown : w3.ownsRow w.heap.size 50 3 (.slice (some ⟨g', 0, none⟩) ((j.dl k).length + 1) cap') ((j.dl k).length + 1) (cellsD j (j.dl k) P ++ [.int .i64 ((k : Int) + 1), .int .i64 (j.Cr k), ptrV p]))
    (hg : (wc.alloc o).grownBy w3 (some g)) :
    ConR j w w3 (k + 1) g' cap' (fun q => if q = k then p else P q) := by
  have hgk : ∀ q ∈ j.dl k, ¬ q = k := by
    intro q hq e
    have : q < k := by simpa using (List.mem_filter.1 hq).1
    omega
  obtain ⟨curg, hbg⟩ : ∃ c, wc.heap[g]? = some (.cells c 50) := by
    obtain ⟨_, ⟨h1, _⟩ | ⟨g1, c1, cur, h1, _, h2, _⟩⟩ := hA.own h
    · cases h1
    · cases h1; exact ⟨cur, h2⟩
  have hglt := lt_of_block hbg
  have hoth : ∀ b, b < wc.heap.size → b ≠ g → w3.heap[b]? = wc.heap[b]? := by
    intro b hb hne
    rw [hg.block b (by simp; omega) (by simpa using hne), Below.heap_alloc _ _ _ hb]
  have hv := h.vlt
  have hs := hA.size
  have hne1 : w.heap.size + 1 ≠ g := by intro e; rw [← e, hA.ver] at hbg; simp at hbg
  have hres : wc.heap[w.heap.size]? = some (.cells #[.bool false, .bool false] 45) := (hA.old _ (by omega) (by omega)).trans h.res
  have hne0 : w.heap.size ≠ g := by intro e; rw [← e, hres] at hbg; simp at hbg
  have hBg : w.heap.size ≤ g := (h.own.lt g rfl).1
  refine ⟨?_, ?_, ?_, ?_, ?_⟩
  · rw [j.dl_succ_no hcor, cellsD_snoc, cellsD_congr j (j.dl k) _ P (fun q hq => if_neg (hgk q hq)), if_pos rfl]
    simpa using hown
  · intro q hq
    have hp3 : ∀ {x : Option Int} {pp : Option Nat}, PtrOk wc x pp → PtrOk w3 x pp := by
      intro x pp hp
      refine hp.of_heap (fun b c hb => hoth b (lt_of_block hb) (fun e => ?_))
      rw [e, hbg] at hb
      simp at hb
    rw [j.dl_succ_no hcor] at hq
    rcases List.mem_append.1 hq with hq | hq
    · rw [if_neg (hgk q hq)]
      refine hp3 ((h.ptr q hq).of_heap (fun b c hb => hA.old b (lt_of_block hb) (fun e => ?_)))
      rw [e, h.ver] at hb
      simp at hb
    · obtain rfl : q = k := by simpa using hq
      rw [if_pos rfl]
      exact hp3 hA.ptr
  · rw [hoth _ (by omega) hne0]; exact hres
  · rw [hoth _ (by omega) hne1]; exact hA.ver
  · refine hA.bel.trans ?_
    refine Below.grown (w := wc.alloc o) ((Below.refl _ _).alloc (by have := hA.bel.size; omega) _) hg (by have := hA.bel.size; simp; omega) ?_
    intro k' hk'
    simp at hk'
    omega

theorem info50 : (Try.prog.info? 50).map (fun i => (i.zero, i.size, i.bytes)) = some (some (.agg #[.int .i64 0, .int .i64 0, .pointer none]), 3, 24) := by kernel_rfl
end Go.Proofs.Qxb6001094a

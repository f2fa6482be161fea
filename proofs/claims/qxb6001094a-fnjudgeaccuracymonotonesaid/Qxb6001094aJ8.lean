import Derived.Test.Qxb6001094aJ7
namespace Go.Proofs.Qxb6001094a
open Go.RowKit Go.Deep

set_option maxRecDepth 100000 in
set_option maxHeartbeats 400000 in
theorem conclude_zero (j : Jd) (J cC : Nat) (aC : Option Addr) (w : World) (h0 : j.n = 0) (c0 : w.cell? ⟨J, 0, none⟩ = some (.slice aC j.n cC)) (c5 : w.cell? ⟨J, 5, none⟩ = some (.bool j.acc)) :
    Calls Try.prog 42 #[.pointer (some ⟨J, 0, none⟩)] w fun e w' => ∃ g cap P, e = .returned (.tuple #[.slice (some ⟨g, 0, none⟩) (j.dl j.n).length cap, .agg #[.bool (j.complete j.n), .bool (j.ea j.n 0)]]) ∧ ConP j w w' g cap P := by
  have hJlt : J < w.heap.size := block_lt_of_cell c0
  have d5 : ∀ o, (w.alloc o).cell? ⟨J, 5, none⟩ = some (.bool j.acc) := fun o => by rw [((Below.refl w.heap.size w).alloc (Nat.le_refl _) o).cell (p := ⟨J, 5, none⟩) hJlt, c5]
  have e1 : (j.dl j.n).length = 0 := by rw [h0]; rfl
  have e2 : j.complete j.n = true := by rw [h0]; rfl
  have e3 : j.ea j.n 0 = j.acc := by rw [h0]; simp [Jd.ea, Jd.wrongTo, Jd.rowWrong]
  rw [e1, e2, e3]
  rw [h0] at c0
  have H0 : Hid (j.n = 0) := h0
  have hS := ConR.start j w
  have g0 := (hS.bel.cell (p := ⟨J, 0, none⟩) hJlt).trans c0
  clear hS h0 e1 e2 e3
  go_enter Try.func42, Try.ntmps42
  go_wp2
  refine wp_loop_rounds 1 ?_
  rw [rounds_succ]
  go_wp2
  refine wp_loop_rounds 1 ?_
  rw [rounds_succ]
  go_wp2
  go_region
  go_wp2
  refine bodyPost_ret (v := .tuple #[.slice (some ⟨w.heap.size + 1 + 1, 0, none⟩) 0 0, .agg #[.bool true, .bool j.acc]]) (by simp [results, Try.results42, go_sem]) rfl ⟨w.heap.size + 1 + 1, 0, fun _ => none, rfl, ?_⟩
  have hn : j.n = 0 := H0.out
  have hl : j.dl j.n = [] := by rw [hn]; rfl
  refine ⟨?_, by rw [hl]; simp, ((((Below.refl _ _).alloc (Nat.le_refl _) _).alloc (by simp) _).alloc (by simp; omega) _).drew⟩
  rw [hl]
  have hm := (World.ownsRow_made (base := w.heap.size) (e := 50) (size := 3) ((w.alloc (.cells #[.bool true, .bool j.acc] 45)).alloc (.cells #[.bool true, .bool j.acc] 45)) #[] 0 (by simp; omega) (by simp [maxLen]) (by simp)).drew
  simpa [cellsD] using hm

/-- The detections as they lie. -/
structure Dets (j : Jd) (w : World) (g cap : Nat) (P : Nat → Option Nat) : Prop where
  own : w.ownsRow 0 50 3 (.slice (some ⟨g, 0, none⟩) (j.dl j.n).length cap) (j.dl j.n).length (cellsD j (j.dl j.n) P)
  ptr : ∀ q ∈ j.dl j.n, PtrOk w (j.det q) (P q)

theorem ownsRow_zero {w : World} {base e size n : Nat} {v : Value} {xs : List Value} (h : w.ownsRow base e size v n xs) : w.ownsRow 0 e size v n xs := by
  obtain ⟨h1, h2 | ⟨g, cap, cur, a1, a2, a3⟩⟩ := h
  · exact ⟨h1, .inl h2⟩
  · exact ⟨h1, .inr ⟨g, cap, cur, a1, Nat.zero_le _, a3⟩⟩
theorem ConP.dets {j : Jd} {w w' : World} {g cap : Nat} {P : Nat → Option Nat} (h : ConP j w w' g cap P) : Dets j w' g cap P := ⟨ownsRow_zero h.own, h.ptr⟩
theorem Dets.of_heap {j : Jd} {w w' : World} {g cap : Nat} {P : Nat → Option Nat} (h : Dets j w g cap P) (h50 : ∀ (k : Nat) (c : Array Value), w.heap[k]? = some (.cells c 50) → w'.heap[k]? = w.heap[k]?) (h3 : ∀ (k : Nat) (c : Array Value), w.heap[k]? = some (.cells c 3) → w'.heap[k]? = w.heap[k]?) : Dets j w' g cap P :=
  ⟨ownsRow_of_heap h.own h50, fun q hq => (h.ptr q hq).of_heap h3⟩
theorem Dets.below {j : Jd} {w w' : World} {g cap : Nat} {P : Nat → Option Nat} (h : Dets j w g cap P) (hb : Below w.heap.size w w') : Dets j w' g cap P :=
  h.of_heap (fun k _ hk => hb.block k (lt_of_block hk)) (fun k _ hk => hb.block k (lt_of_block hk))

/-- conclude, any number of processes. -/
theorem conclude_any (j : Jd) (J lo : Nat) (w : World) (hJ : JudgeAt j w J lo) :
    Calls Try.prog 42 #[.pointer (some ⟨J, 0, none⟩)] w fun e w' => ∃ g cap P, e = .returned (.tuple #[.slice (some ⟨g, 0, none⟩) (j.dl j.n).length cap, .agg #[.bool (j.complete j.n), .bool (j.ea j.n 0)]]) ∧ ConP j w w' g cap P := by
  have hJ' := hJ
  obtain ⟨hn, aC, cC, aS, cS, hb, hC, hS⟩ := hJ
  have c0 := cell_blk (o := 0) hb rfl
  have c5 := cell_blk (o := 5) hb rfl
  by_cases h0 : j.n = 0
  · exact conclude_zero j J cC aC w h0 c0 c5
  · obtain ⟨gC, cC', gS, cS', G, hJS⟩ := hJ'.js (by omega)
    exact conclude_some j J gC cC' gS cS' G w hn (by omega) hJS c5

/-- ZZJudgeConclude's two blocks. -/
theorem judge_boxes (j : Jd) (aC aS : Option Addr) (cC cS lo : Nat) (w : World) (hn : j.n ≤ 131072) (hC : IntsIn w lo aC j.n j.Cr) (hS : GridIn w lo aS j.n j.S) :
    JudgeAt j ((w.alloc (.cells #[.bool false, .bool false] 45)).alloc (.cells #[.slice aC j.n cC, .int .i64 j.fin, .int .i64 j.af, .slice aS j.n cS, .int .i64 0, .bool j.acc] 74)) (w.heap.size + 1) lo := by
  have hb : Below w.heap.size w ((w.alloc (.cells #[.bool false, .bool false] 45)).alloc (.cells #[.slice aC j.n cC, .int .i64 j.fin, .int .i64 j.af, .slice aS j.n cS, .int .i64 0, .bool j.acc] 74)) :=
    ((Below.refl _ _).alloc (Nat.le_refl _) _).alloc (by simp) _
  refine ⟨hn, aC, cC, aS, cS, ?_, hC.below hb, hS.below hb⟩
  have := heap_alloc_new (w.alloc (.cells #[.bool false, .bool false] 45)) (.cells #[.slice aC j.n cC, .int .i64 j.fin, .int .i64 j.af, .slice aS j.n cS, .int .i64 0, .bool j.acc] 74)
  simpa using this

theorem judge_out {j : Jd} {w w1 : World} {o : Obj} {g cap : Nat} {P : Nat → Option Nat} {c d : Bool} (h : ConP j ((w.alloc (.cells #[.bool false, .bool false] 45)).alloc o) w1 g cap P) :
    w1.heap[w.heap.size]? = some (.cells #[.bool false, .bool false] 45) ∧
    Dets j ((w1.setCell ⟨w.heap.size, 0, none⟩ (.bool c)).setCell ⟨w.heap.size, 1, none⟩ (.bool d)) g cap P ∧ Below w.heap.size w ((w1.setCell ⟨w.heap.size, 0, none⟩ (.bool c)).setCell ⟨w.heap.size, 1, none⟩ (.bool d)) := by
  have hr : w1.heap[w.heap.size]? = some (.cells #[.bool false, .bool false] 45) := by
    rw [h.bel.block _ (by simp; omega), Below.heap_alloc _ _ _ (by simp), heap_alloc_new]
  have hoth : ∀ k, k ≠ w.heap.size → ((w1.setCell ⟨w.heap.size, 0, none⟩ (.bool c)).setCell ⟨w.heap.size, 1, none⟩ (.bool d)).heap[k]? = w1.heap[k]? := fun k hk => two_set_other hk
  refine ⟨hr, h.dets.of_heap (fun k c hk => hoth k (fun e => ?_)) (fun k c hk => hoth k (fun e => ?_)), ?_⟩
  · rw [e, hr] at hk; simp at hk
  · rw [e, hr] at hk; simp at hk
  · have hb0 : Below w.heap.size w ((w.alloc (.cells #[.bool false, .bool false] 45)).alloc o) := ((Below.refl _ _).alloc (Nat.le_refl _) _).alloc (by simp) _
    exact ((hb0.trans (h.bel.mono (by simp; omega))).setCell (by simp) _).setCell (by simp) _

set_option maxRecDepth 100000 in
set_option maxHeartbeats 400000 in
theorem judge_any (j : Jd) (aC aS : Option Addr) (cC cS lo : Nat) (w : World) (hn : j.n ≤ 131072) (hC : IntsIn w lo aC j.n j.Cr) (hS : GridIn w lo aS j.n j.S) :
    Calls Try.prog 26 #[.slice aC j.n cC, .int .i64 j.fin, .int .i64 j.af, .slice aS j.n cS, .bool j.acc] w fun e w' =>
      ∃ g cap P, e = .returned (.tuple #[.slice (some ⟨g, 0, none⟩) (j.dl j.n).length cap, .agg #[.bool (j.complete j.n), .bool (j.ea j.n 0)]]) ∧ Dets j w' g cap P ∧ Below w.heap.size w w' := by
  have HC : Hid (IntsIn w lo aC j.n j.Cr) := hC
  have HS : Hid (GridIn w lo aS j.n j.S) := hS
  clear hC hS
  go_enter Try.func26, Try.ntmps26
  go_wp2_with fail
  refine (conclude_any j _ lo _ (judge_boxes j aC aS cC cS lo w hn HC.out HS.out)).mono ?_
  rintro e w1 ⟨g, cap, P, rfl, hP⟩
  have hres := (judge_out (c := false) (d := false) hP).1
  have r0 := cell_blk (o := 0) hres rfl
  have r1 := cell_blk (o := 1) hres rfl
  have rf0 := free_blk hres 0
  have rf1 := free_blk hres 1
  have HRES : Hid (w1.heap[w.heap.size]? = some (.cells #[.bool false, .bool false] 45)) := hres
  clear hres
  go_wp2
  have z0 : (w1.setCell ⟨w.heap.size, 0, none⟩ (.bool (j.complete j.n))).cell? ⟨w.heap.size, 0, none⟩ = some (.bool (j.complete j.n)) := cell_blk (blk_setCell HRES.out _) rfl
  have z1 : ((w1.setCell ⟨w.heap.size, 0, none⟩ (.bool (j.complete j.n))).setCell ⟨w.heap.size, 1, none⟩ (.bool (j.ea j.n 0))).cell? ⟨w.heap.size, 1, none⟩ = some (.bool (j.ea j.n 0)) := cell_blk (blk_setCell (blk_setCell HRES.out _) _) rfl
  exact bodyPost_ret (v := .tuple #[.slice (some ⟨g, 0, none⟩) (j.dl j.n).length cap, .agg #[.bool (j.complete j.n), .bool (j.ea j.n 0)]]) (by simp [results, Try.results26, go_sem, z0, z1]) rfl ⟨g, cap, P, rfl, (judge_out hP).2⟩
end Go.Proofs.Qxb6001094a

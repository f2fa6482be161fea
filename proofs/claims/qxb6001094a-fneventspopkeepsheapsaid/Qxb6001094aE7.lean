import Derived.Test.Qxb6001094aE6
namespace Go.Proofs.Qxb6001094a
open Go.RowKit Go.Deep

attribute [local go_sem] Go.wp_at_zero Go.wp_at_succ

/-- Where q lies and what it leads to. -/
structure QAt (w : World) (Q g cap : Nat) (l : List E5) : Prop where
  q : w.heap[Q]? = some (.cells #[.slice (some ⟨g, 0, none⟩) l.length cap] 26)
  own : OwnEv w 32 g cap l

theorem flat_take (l : List E5) (k : Nat) (hk : k ≤ l.length) : flat (l.take k) = (flat l).take (k * 5) := by
  have e : flat l = flat (l.take k) ++ flat (l.drop k) := by rw [← flat_append, List.take_append_drop]
  have h5 : (flat (l.take k)).length = k * 5 := by rw [flat_length, List.length_take]; omega
  rw [e, List.take_append_of_le_length (by omega)]
  exact (List.take_of_length_le (by omega)).symm
theorem OwnEv.take {w : World} {t : TypeId} {g cap : Nat} {l : List E5} (h : OwnEv w t g cap l) (k : Nat) (hk : k ≤ l.length) : OwnEv w t g cap (l.take k) := by
  obtain ⟨a, ⟨h1, _⟩ | ⟨g1, c1, cur, h1, h2, h3, h4, h5, h6, h7⟩⟩ := h
  · cases h1
  · cases h1
    have hl : (l.take k).length = k := by rw [List.length_take]; omega
    refine ⟨flat_length _, .inr ⟨_, _, cur, rfl, h2, h3, by omega, h5, h6, ?_⟩⟩
    rw [hl, flat_take l k hk, ← h7, List.take_take, Nat.min_eq_left (by omega)]

def W3 (w : World) (f z : E5) : World :=
  ((w.alloc (.cells #[.int .i64 0, .int .i64 0, .int .i64 0, .int .i64 0, .int .i64 0] 32)).alloc (.cells #[.int .i64 f.a, .int .i64 f.b, .int .i64 f.c, .int .i64 f.d, .int .i64 f.e] 32)).alloc (.cells #[.int .i64 z.a, .int .i64 z.b, .int .i64 z.c, .int .i64 z.d, .int .i64 z.e] 32)

theorem W3_below (w : World) (f z : E5) : Below w.heap.size w (W3 w f z) := (((Below.refl _ _).alloc (Nat.le_refl _) _).alloc (by simp) _).alloc (by simp; omega) _
theorem W3_box (w : World) (f z : E5) : Box5 (W3 w f z) w.heap.size 32 e0 ∧ Box5 (W3 w f z) (w.heap.size + 1) 32 f ∧ Box5 (W3 w f z) (w.heap.size + 2) 32 z := by
  refine ⟨?_, ?_, ?_⟩
  · unfold Box5 W3
    rw [Below.heap_alloc _ _ _ (by simp; omega), Below.heap_alloc _ _ _ (by simp), heap_alloc_new]; rfl
  · unfold Box5 W3
    rw [Below.heap_alloc _ _ _ (by simp)]
    have := heap_alloc_new (w.alloc (.cells #[.int .i64 0, .int .i64 0, .int .i64 0, .int .i64 0, .int .i64 0] 32)) (.cells #[.int .i64 f.a, .int .i64 f.b, .int .i64 f.c, .int .i64 f.d, .int .i64 f.e] 32)
    simpa using this
  · unfold Box5 W3
    have := heap_alloc_new ((w.alloc (.cells #[.int .i64 0, .int .i64 0, .int .i64 0, .int .i64 0, .int .i64 0] 32)).alloc (.cells #[.int .i64 f.a, .int .i64 f.b, .int .i64 f.c, .int .i64 f.d, .int .i64 f.e] 32)) (.cells #[.int .i64 z.a, .int .i64 z.b, .int .i64 z.c, .int .i64 z.d, .int .i64 z.e] 32)
    simpa using this

theorem gt_take {l : List E5} {m j : Nat} (h : j < m) : gt (l.take m) j = gt l j := by
  unfold gt; simp [List.getD, h]

theorem popR_start {w : World} {Q g cap m : Nat} {l : List E5} (hQ : QAt w Q g cap l) (hm : l.length = m + 1) (h1 : 1 ≤ m) : PopR w (W3 w (gt l 0) (gt l m)) Q g cap l 0 (l.take m) := by
  have hl : (l.take m).length = m := by rw [List.length_take]; omega
  have hb := W3_below w (gt l 0) (gt l m)
  obtain ⟨b0, b1, b2⟩ := W3_box w (gt l 0) (gt l m)
  refine ⟨by omega, by omega, (hQ.own.take m (by omega)).below hb, by rw [hl], ?_, b0, b1, by rw [hl]; exact b2, (hb.block _ (lt_of_block hQ.q)).trans hQ.q, Kept2.of_below _ _ hb, lt_of_block hQ.q, hQ.own.lt⟩
  intro hh
  rw [hl]
  refine ⟨fun j h1 h2 h3 => ?_, fun j _ _ _ h4 => by omega⟩
  rw [gt_set_ne (by omega), gt_set_ne h3, gt_take h2, gt_take (by omega)]
  exact hh j h1 (by omega)

set_option maxRecDepth 100000 in
set_option maxHeartbeats 1000000 in
theorem pop_many (Q g cap : Nat) (l : List E5) (w : World) (hn : l.length ≤ 131072) (hl : 2 ≤ l.length) (hQ : QAt w Q g cap l) :
    Calls Try.prog 40 #[.pointer (some ⟨Q, 0, none⟩)] w fun e w' => e = .returned (gt l 0).val ∧ ∃ R, PopP w w' Q g cap l R := by
  have q0 := cell_of_one hQ.q
  have hql : Q < w.heap.size := lt_of_block hQ.q
  have hgl : g < w.heap.size := hQ.own.lt
  have hx := hQ.own.at5 (i := 0) (by omega)
  have hy := hQ.own.at5 (i := l.length - 1) (by omega)
  have hcap : l.length ≤ cap := by
    obtain ⟨_, ⟨h1, _⟩ | ⟨g1, c1, cur, h1, _, _, h4, _⟩⟩ := hQ.own
    · cases h1
    · cases h1; exact h4
  obtain ⟨m, hm⟩ : ∃ m, l.length = m + 1 := ⟨l.length - 1, by omega⟩
  rw [show l.length - 1 = m by omega] at hy
  obtain ⟨x0, x1, x2, x3, x4⟩ := hx
  obtain ⟨y0, y1, y2, y3, y4⟩ := hy
  simp only [Nat.zero_mul, Nat.zero_add] at x0 x1 x2 x3 x4
  rw [hm] at q0 hcap
  have Hm : Hid (l.length = m + 1) := hm
  have hm2 : 1 ≤ m := by omega
  have hmn : m ≤ 131071 := by omega
  have hst := popR_start hQ hm hm2
  clear hm hl hn hQ
  generalize hf : gt l 0 = f at x0 x1 x2 x3 x4 hst ⊢
  generalize hz : gt l m = z at y0 y1 y2 y3 y4 hst
  have HF : Hid (gt l 0 = f ∧ gt l m = z) := ⟨hf, hz⟩
  clear hf hz
  have d28 : decide (0 < m) = true := decide_eq_true (by omega)
  have d28z : decide ((0 : Int) < (m : Int)) = true := decide_eq_true (by omega)
  go_enter Try.func40, Try.ntmps40
  go_upto_block 0 with fail
  clear x0 x1 x2 x3 x4 y0 y1 y2 y3 y4
  go_cut [6, 7, 8] from 9 (fun s6 _ _ wc => ∃ (i : Nat) (L : List E5), s6 = .int .i64 i ∧ L.length = m ∧ PopE w wc Q g cap l i L)
  case first =>
    go_wp2_with fail
    go_loopg [6, 7, 8] m (fun gk s6 _ _ wr => ∃ (i : Nat) (L : List E5), gk = m - i ∧ s6 = .int .i64 i ∧ L.length = m ∧ PopR w wr Q g cap l i L)
    case atStart => exact ⟨0, l.take m, rfl, rfl, by rw [List.length_take, Hm.out]; omega, hst⟩
    case round =>
      obtain ⟨i, L, rfl, rfl, hLm, hR⟩ := hrel
      have him : i < m := by have := hR.hi; omega
      by_cases hleaf : m ≤ 2 * i + 1
      · have hlz : (m : Int) ≤ 2 * (i : Int) + 1 := by omega
        go_wp2
        go_meet
        exact ⟨i, L, rfl, hLm, hR.stop_leaf (by omega)⟩
      have hlz : 2 * (i : Int) + 1 < (m : Int) := by omega
      have hgw : g < wr.heap.size := hR.own.lt
      go_upto_region 10 with fail
      obtain ⟨c1, hc1⟩ : ∃ c1 : Nat, c1 = 2 * i + 1 := ⟨_, rfl⟩
      obtain ⟨c2, hc2⟩ : ∃ c2 : Nat, c2 = c1 + 1 := ⟨_, rfl⟩
      rw [show 2 * (i : Int) + 1 = (c1 : Int) by omega, show (c1 : Int) + 1 = (c2 : Int) by omega]
      have HC : Hid (c1 = 2 * i + 1 ∧ c2 = c1 + 1) := ⟨hc1, hc2⟩
      have hc1m : c1 < m := by omega
      have hc1z : (c1 : Int) < (m : Int) := by omega
      clear hc1 hc2 hlz
      go_cut [52] from 29 to 68 (fun s52 wc => ∃ bb, s52 = .bool bb ∧ Below wr.heap.size wr wc ∧ (bb = true → MinChild L i c2) ∧ (bb = false → MinChild L i c1))
      case first =>
        by_cases hrt : c2 < m
        · have hrz : (c2 : Int) < (m : Int) := by omega
          have hrd : decide ((c2 : Int) < (m : Int)) = true := decide_eq_true hrz
          have ga := hR.own.at5 (i := c1) (by omega)
          have gb := hR.own.at5 (i := c2) (by omega)
          generalize hx : gt L c1 = x at ga
          generalize hy : gt L c2 = y at gb
          have HX : Hid (gt L c1 = x ∧ gt L c2 = y) := ⟨hx, hy⟩
          clear hx hy
          obtain ⟨x0, x1, x2, x3, x4⟩ := ga
          obtain ⟨y0, y1, y2, y3, y4⟩ := gb
          go_region_held3 (fun w' => w'.cell? ⟨g, c1 * 5, none⟩ = some (.int .i64 x.a) ∧ w'.cell? ⟨g, c1 * 5 + 1, none⟩ = some (.int .i64 x.b) ∧ w'.cell? ⟨g, c1 * 5 + 2, none⟩ = some (.int .i64 x.c) ∧ w'.cell? ⟨g, c1 * 5 + 3, none⟩ = some (.int .i64 x.d) ∧ w'.cell? ⟨g, c1 * 5 + 4, none⟩ = some (.int .i64 x.e) ∧ w'.cell? ⟨g, c2 * 5, none⟩ = some (.int .i64 y.a) ∧ w'.cell? ⟨g, c2 * 5 + 1, none⟩ = some (.int .i64 y.b) ∧ w'.cell? ⟨g, c2 * 5 + 2, none⟩ = some (.int .i64 y.c) ∧ w'.cell? ⟨g, c2 * 5 + 3, none⟩ = some (.int .i64 y.d) ∧ w'.cell? ⟨g, c2 * 5 + 4, none⟩ = some (.int .i64 y.e)) (go_keep)
            ((go_at_call 45; refine (before_any y x _).mono ?_; rintro e w1 ⟨rfl, hb1⟩; have hr1 := bcellD hb1))
          go_wp2
          go_meet
          obtain ⟨e1, e2⟩ := HC.out
          obtain ⟨e3, e4⟩ := HX.out
          subst e1; subst e2
          refine ⟨bef y x, rfl, (Below.refl _ _).drew.trans hb1, fun hb => minChild_right (by omega) (by rw [e3, e4]; exact hb), fun hb => minChild_left' (by omega) (by rw [e3, e4]; exact hb)⟩
        · have hrd : decide ((c2 : Int) < (m : Int)) = false := decide_eq_false (by omega)
          go_quiet (fail)
          go_wp2
          go_meet
          obtain ⟨e1, e2⟩ := HC.out
          subst e1; subst e2
          exact ⟨false, rfl, ⟨rfl, rfl, rfl, Nat.le_refl _, fun _ _ => rfl⟩, by simp, fun _ => minChild_left (by omega) (by omega)⟩
      case rest =>
        obtain ⟨bb, rfl, hbw, hbt, hbf⟩ := hcut
        obtain ⟨w2, rfl⟩ : ∃ w2 : World, w2 = wc := ⟨_, rfl⟩
        go_upto_if 52 with fail
        go_cut [7, 52] from 29 to 68 (fun s7 _ wx => ∃ c : Nat, s7 = .int .i64 c ∧ MinChild L i c ∧ w2 = wx)
        case first =>
          cases bb with
          | true =>
            go_wp2
            go_meet
            exact ⟨c2, rfl, hbt trivial, rfl⟩
          | false =>
            go_wp2
            go_meet
            exact ⟨c1, rfl, hbf trivial, rfl⟩
        case rest =>
        obtain ⟨c, rfl, hmc, rfl⟩ := hcut
        have hR2 := hR.below hbw
        clear hR hbw hbt hbf HC hc1m hc1z hgw
        have hcm : c < m := by have := hmc.1; omega
        have hcz : (c : Int) < (m : Int) := by omega
        have ga := hR2.own.at5 hmc.1
        have gb := hR2.last
        rw [hLm, HF.out.2] at gb
        generalize hx : gt L c = x at ga
        have HX : Hid (gt L c = x) := hx
        clear hx
        have hgw : g < w2.heap.size := hR2.own.lt
        have hlw : w.heap.size + 1 + 1 < w2.heap.size := by have := hR2.size; omega
        obtain ⟨x0, x1, x2, x3, x4⟩ := ga
        obtain ⟨y0, y1, y2, y3, y4, -⟩ := gb.cells
        go_upto_region 12 with fail
        go_region_held3 (fun w' => w'.cell? ⟨g, c * 5, none⟩ = some (.int .i64 x.a) ∧ w'.cell? ⟨g, c * 5 + 1, none⟩ = some (.int .i64 x.b) ∧ w'.cell? ⟨g, c * 5 + 2, none⟩ = some (.int .i64 x.c) ∧ w'.cell? ⟨g, c * 5 + 3, none⟩ = some (.int .i64 x.d) ∧ w'.cell? ⟨g, c * 5 + 4, none⟩ = some (.int .i64 x.e) ∧ w'.cell? ⟨w.heap.size + 1 + 1, 0, none⟩ = some (.int .i64 z.a) ∧ w'.cell? ⟨w.heap.size + 1 + 1, 1, none⟩ = some (.int .i64 z.b) ∧ w'.cell? ⟨w.heap.size + 1 + 1, 2, none⟩ = some (.int .i64 z.c) ∧ w'.cell? ⟨w.heap.size + 1 + 1, 3, none⟩ = some (.int .i64 z.d) ∧ w'.cell? ⟨w.heap.size + 1 + 1, 4, none⟩ = some (.int .i64 z.e)) (go_keep)
          ((go_at_call 45; refine (before_any x z _).mono ?_; rintro e w3 ⟨rfl, hb3⟩; have hr3 := bcellD hb3))
        have hb4 : Below w2.heap.size w2 w3 := (Below.refl _ _).drew.trans hb3
        have hR3 := hR2.below hb4
        clear hR2 hb3 hr3 hb4 x0 x1 x2 x3 x4 y0 y1 y2 y3 y4
        cases hbz : bef x z with
        | false =>
          go_wp2
          go_meet
          exact ⟨i, L, rfl, hLm, hR3.stop hmc (by rw [HX.out, hLm, HF.out.2]; exact hbz)⟩
        | true =>
          have ga := hR3.own.at5 hmc.1
          have gi := hR3.own.at5 hR3.hi
          have fz := fun o => World.ownsRow.frozenAt hR3.own o
          rw [HX.out] at ga
          obtain ⟨x0, x1, x2, x3, x4⟩ := ga
          obtain ⟨y0, y1, y2, y3, y4⟩ := gi
          go_wp2
          go_roundg (m - c)
          case rel =>
            have hst := hR3.step hmc (by rw [HX.out, hLm, HF.out.2]; exact hbz)
            rw [HX.out] at hst
            exact ⟨c, L.set i x, rfl, rfl, by rw [List.length_set]; exact hLm, hst⟩
          case measure => have := hmc.2.1; have := hmc.2.2.1; omega
  case rest =>
    obtain ⟨i, L, rfl, hLm, hE⟩ := hcut
    have him : i < m := by have := hE.hi; omega
    have him' : (i : Int) < (m : Int) := by omega
    have gi := hE.own.at5 hE.hi
    have fz := fun o => World.ownsRow.frozenAt hE.own o
    have gb := hE.last
    rw [hLm, HF.out.2] at gb
    have gf := hE.first
    rw [HF.out.1] at gf
    obtain ⟨x0, x1, x2, x3, x4⟩ := gi
    obtain ⟨y0, y1, y2, y3, y4, -⟩ := gb.cells
    obtain ⟨f0, f1, f2, f3, f4, -⟩ := gf.cells
    obtain ⟨r0, r1, r2, r3, r4, rf0, rf1, rf2, rf3, rf4⟩ := hE.res.cells
    have qc := cell_of_one hE.q
    have qf := free_of_one hE.q
    obtain ⟨curg, hbg⟩ := hE.own.block
    have hQg : Q ≠ g := by intro e; rw [← e, hE.q] at hbg; simp at hbg
    clear hbg
    have hgQ : g ≠ Q := Ne.symm hQg
    have hd := hE.done
    rw [hLm, HF.out.2, HF.out.1] at hd
    have HD : Hid (PopP _ _ _ _ _ _ _) := hd
    clear hd
    have hB0 : Box5 ((put5 wc g (i * 5) z).setCell ⟨Q, 0, none⟩ (.slice (some ⟨g, 0, none⟩) m cap)) w.heap.size 32 e0 := by
      unfold Box5
      rw [Below.heap_setCell _ _ _ _ (by simp; omega), put5_other (by omega)]
      exact hE.res
    have HB : Hid (Box5 _ _ _ _) := put5_box (x := f) hB0
    clear hB0
    go_wp2
    obtain ⟨z0, z1, z2, z3, z4, -⟩ := HB.out.cells
    simp only [put5, Nat.zero_add] at z0 z1 z2 z3 z4
    exact bodyPost_ret (v := f.val) (by simp [results, Try.results40, go_sem, E5.val, z0, z1, z2, z3, z4]) rfl ⟨rfl, _, HD.out⟩
end Go.Proofs.Qxb6001094a

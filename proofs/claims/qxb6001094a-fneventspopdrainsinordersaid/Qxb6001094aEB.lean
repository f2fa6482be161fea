import Derived.Test.Qxb6001094aEA
namespace Go.Proofs.Qxb6001094a
open Go.RowKit Go.Deep

attribute [local go_sem] Go.wp_at_zero Go.wp_at_succ

/-- evHeapOf, k events pushed. -/
structure HeapR (w wr : World) (n k : Nat) (l L : List E5) : Prop where
  len : L.length = k
  own : wr.ownsRow w.heap.size 29 5 (.slice (some ⟨w.heap.size, 0, none⟩) k n) k (flat L)
  perm : L.Perm (l.take k)
  heap : IsHeap k (gt L)
  bel : Below w.heap.size w wr
/-- .. while the newest climbs from place i. -/
structure UpR (w wr : World) (n k : Nat) (l L : List E5) (i : Nat) : Prop where
  len : L.length = k
  hi : i < k
  own : wr.ownsRow w.heap.size 29 5 (.slice (some ⟨w.heap.size, 0, none⟩) k n) k (flat L)
  perm : L.Perm (l.take k)
  heap : HeapUp k i (gt L)
  bel : Below w.heap.size w wr

theorem UpR.ownE {w wr : World} {n k i : Nat} {l L : List E5} (h : UpR w wr n k l L i) : OwnEv wr 29 w.heap.size n L := by
  unfold OwnEv; rw [h.len]; exact ownsRow_zero' h.own
theorem UpR.below {w wr w1 : World} {n k i : Nat} {l L : List E5} (h : UpR w wr n k l L i) (hb : Below wr.heap.size wr w1) : UpR w w1 n k l L i :=
  ⟨h.len, h.hi, ownsRow_below h.own hb, h.perm, h.heap, h.bel.trans (hb.mono h.bel.size)⟩
theorem UpR.stop {w wr : World} {n k i : Nat} {l L : List E5} (h : UpR w wr n k l L i) (hs : 1 ≤ i → bef (gt L i) (gt L ((i - 1) / 2)) = false) : HeapR w wr n k l L :=
  ⟨h.len, h.own, h.perm, h.heap.stop hs, h.bel⟩
theorem HeapR.push {w wr w1 w2 : World} {n k : Nat} {l L : List E5} {x : E5} {o : Obj} (h : HeapR w wr n k l L) (hb : Below wr.heap.size wr w1) (hk : k < l.length) (hx : gt l k = x)
    (hown : w2.ownsRow w.heap.size 29 5 (.slice (some ⟨w.heap.size, 0, none⟩) (k + 1) n) (k + 1) (flat L ++ cells5 x)) (hg : (w1.alloc o).grownBy w2 (some w.heap.size)) :
    UpR w w2 n (k + 1) l (L ++ [x]) k := by
  have hs := h.bel.size
  have hs2 := hb.size
  have hl := h.len
  refine ⟨by simp [hl], by omega, by rw [flat_append, flat_one]; exact hown, ?_, ?_, ?_⟩
  · rw [take_snoc5 l k hk, hx]; exact h.perm.append_right _
  · refine HeapUp.start (h.heap.congr (fun j hj => ?_))
    unfold gt
    simp only [List.getD]
    rw [List.getElem?_append_left (by omega)]
  · have hb2 : Below w.heap.size w w1 := h.bel.trans (hb.mono hs)
    exact (hb2.alloc (by omega) _).grown hg (by simp; omega) (by simp)
theorem put5_ownRow {w : World} {base g n k i : Nat} {t : TypeId} {L : List E5} {x : E5} (h : w.ownsRow base t 5 (.slice (some ⟨g, 0, none⟩) k n) k (flat L)) (hi : i < L.length) : (put5 w g (i * 5) x).ownsRow base t 5 (.slice (some ⟨g, 0, none⟩) k n) k (flat (L.set i x)) := by
  unfold put5
  rw [flat_set L i x hi]
  exact ((((((((h.stored (i * 5) _).1).stored (i * 5 + 1) _).1).stored (i * 5 + 2) _).1).stored (i * 5 + 3) _).1).stored (i * 5 + 4) _ |>.1
theorem UpR.step {w wr : World} {n k i p : Nat} {l L : List E5} {o : Obj} (h : UpR w wr n k l L i) (hi1 : 1 ≤ i) (hp : (i - 1) / 2 = p) (hb : bef (gt L i) (gt L p) = true) :
    UpR w (put5 (put5 (wr.alloc o) w.heap.size (i * 5) (gt L p)) w.heap.size (p * 5) (gt L i)) n k l ((L.set i (gt L p)).set p (gt L i)) p := by
  have hl := h.len
  have hi := h.hi
  have hpk : p < L.length := by omega
  have hik : i < L.length := by omega
  have hs := h.bel.size
  refine ⟨by simp [hl], by omega, put5_ownRow (put5_ownRow (h.own.alloc _) hik) (by rw [List.length_set]; exact hpk), ?_, ?_, ?_⟩
  · refine List.Perm.trans ?_ h.perm
    rw [gt_of_lt hpk, gt_of_lt hik]
    exact List.set_set_perm hik hpk
  · refine h.heap.step hi1 hi hp hb ?_ ?_ ?_
    · rw [gt_set_ne (by omega), gt_set_eq hik]
    · rw [gt_set_eq (by rw [List.length_set]; exact hpk)]
    · intro j h1 h2
      rw [gt_set_ne h2, gt_set_ne h1]
  · exact put5_below (put5_below (h.bel.alloc hs _) (Nat.le_refl _)) (Nat.le_refl _)

set_option maxRecDepth 100000 in
set_option maxHeartbeats 1000000 in
theorem heapOf_any (a : Option Addr) (c : Nat) (l : List E5) (w : World) (hn : l.length ≤ 131072) (hE : EvsIn w a l) :
    Calls Try.prog 20 #[.slice a l.length c] w fun e w' => ∃ L, e = .returned (.slice (some ⟨w.heap.size, 0, none⟩) l.length l.length) ∧ HeapR w w' l.length l.length l L := by
  have HE : Hid (EvsIn w a l) := hE
  obtain ⟨n, hN⟩ : ∃ n, l.length = n := ⟨_, rfl⟩
  have HN : Hid (l.length = n) := hN
  rw [hN] at hn ⊢
  obtain ⟨i0, hi, hz0, hz1, hz2⟩ := info_parts info29
  have HI : Hid (Try.prog.info? 29 = some i0 ∧ i0.zero = some (.agg #[.int .i64 0, .int .i64 0, .int .i64 0, .int .i64 0, .int .i64 0]) ∧ i0.size = 5 ∧ i0.bytes = 40) := ⟨hi, hz0, hz1, hz2⟩
  have HBY : Hid (i0.bytes * n ≤ 281474976710656) := show _ ≤ _ by rw [hz2]; omega
  clear hE hi hz0 hz1 hz2 hN
  go_enter Try.func20, Try.ntmps20
  go_wp2_with (at_make; go_must (refine wpList_make_own _ rfl (.const (.int .i64 0)) (.tmp 10) 22 rfl w.heap.size 29 i0 (.agg #[.int .i64 0, .int .i64 0, .int .i64 0, .int .i64 0, .int .i64 0]) 5 Try.underlying22 HI.out.1 HI.out.2.1 HI.out.2.2.1 .i64 .i64 (n : Int) n rfl rfl rfl HBY.out (by unfold maxLen; omega) (Nat.le_refl _) ?_); intro w1 hown1 hgrow1)
  have h0 : HeapR w w1 n 0 l [] := ⟨rfl, by simpa [flat] using hown1, by simp, fun j h1 h2 => by omega, (Below.refl _ _).grown hgrow1 (Nat.le_refl _) (by simp)⟩
  clear hown1 hgrow1
  go_loopg [3, 5, 14] n (fun gk q _ i wr => ∃ (k : Nat) (L : List E5), k ≤ n ∧ gk = n - k ∧ q = .slice (some ⟨w.heap.size, 0, none⟩) k n ∧ i = .int .i64 k ∧ HeapR w wr n k l L)
  case atStart => exact ⟨0, [], Nat.zero_le _, rfl, rfl, rfl, h0⟩
  case round =>
    obtain ⟨k, L, hk, rfl, rfl, rfl, hF⟩ := hrel
    by_cases hlt : k < n
    · have hkl : k < l.length := by rw [HN.out]; exact hlt
      rcases HE.out with h0 | ⟨b, o, rfl, hA⟩
      · rw [h0] at hkl; simp at hkl
      obtain ⟨x1, x2, x3, x4, x5⟩ := (hA k hkl).below hF.bel
      generalize hx : gt l k = x at x1 x2 x3 x4 x5
      have HX : Hid (gt l k = x) := hx
      have hown2 := hF.own
      clear hx hA
      go_upto_block 2 with (at_builtin; go_must (refine wpList_append_fits _ rfl (.tmp 18) (.tmp 20) 22 rfl w.heap.size 29 i0 5 Try.underlying22 HI.out.1 HI.out.2.2.1 w.heap.size k n (flat L) rfl ((hown2.alloc _).alloc _) ⟨wr.heap.size + 1, 0, none⟩ 1 1 (cells5 x) rfl rfl (World.news_of_block (heap_alloc_new2 _ _ _)) (cells5_one x) (by omega) ?_); intro w3 hown3 hgrow3)
      have hU := hF.push (w1 := wr.alloc _) ((Below.refl _ _).alloc (Nat.le_refl _) _) hkl HX.out hown3 hgrow3
      clear hown3 hgrow3 hown2 hF x1 x2 x3 x4 x5
      go_wp2
      go_loopg [6, 7, 8] k (fun gk s6 _ _ wr => ∃ (i : Nat) (L : List E5), i = gk ∧ s6 = .int .i64 i ∧ UpR w wr n (k + 1) l L i)
      case atStart => exact ⟨k, _, rfl, rfl, hU⟩
      case round =>
        clear hU
        obtain ⟨i, L, rfl, rfl, hU⟩ := hrel
        by_cases hi0 : i = 0
        · subst hi0
          go_wp2
          go_roundg (n - (k + 1))
          case rel => exact ⟨k + 1, L, by omega, rfl, rfl, rfl, hU.stop (by omega)⟩
          case measure => omega
        have hi1 : 0 < i := by omega
        have hi1z : (0 : Int) < (i : Int) := by omega
        have hik : i < k + 1 := hU.hi
        have hikz : (i : Int) < (k : Int) + 1 := by omega
        have hgw : w.heap.size < wr.heap.size := hU.ownE.lt
        go_upto_region 9 with fail
        obtain ⟨p, hp⟩ : ∃ p : Nat, (i - 1) / 2 = p := ⟨_, rfl⟩
        rw [show ((i : Int) - 1) / 2 = (p : Int) by omega]
        have HP : Hid ((i - 1) / 2 = p ∧ p < i) := ⟨hp, by omega⟩
        have hpk : p < k + 1 := by omega
        have hpkz : (p : Int) < (k : Int) + 1 := by omega
        clear hp hi0
        have ga := hU.ownE.at5 (i := i) (by rw [hU.len]; exact hik)
        have gb := hU.ownE.at5 (i := p) (by rw [hU.len]; exact hpk)
        generalize hx : gt L i = y at ga
        generalize hy : gt L p = z at gb
        have HX : Hid (gt L i = y ∧ gt L p = z) := ⟨hx, hy⟩
        clear hx hy
        obtain ⟨x0, x1, x2, x3, x4⟩ := ga
        obtain ⟨y0, y1, y2, y3, y4⟩ := gb
        go_region_held3 (fun w' => w'.cell? ⟨w.heap.size, i * 5, none⟩ = some (.int .i64 y.a) ∧ w'.cell? ⟨w.heap.size, i * 5 + 1, none⟩ = some (.int .i64 y.b) ∧ w'.cell? ⟨w.heap.size, i * 5 + 2, none⟩ = some (.int .i64 y.c) ∧ w'.cell? ⟨w.heap.size, i * 5 + 3, none⟩ = some (.int .i64 y.d) ∧ w'.cell? ⟨w.heap.size, i * 5 + 4, none⟩ = some (.int .i64 y.e) ∧ w'.cell? ⟨w.heap.size, p * 5, none⟩ = some (.int .i64 z.a) ∧ w'.cell? ⟨w.heap.size, p * 5 + 1, none⟩ = some (.int .i64 z.b) ∧ w'.cell? ⟨w.heap.size, p * 5 + 2, none⟩ = some (.int .i64 z.c) ∧ w'.cell? ⟨w.heap.size, p * 5 + 3, none⟩ = some (.int .i64 z.d) ∧ w'.cell? ⟨w.heap.size, p * 5 + 4, none⟩ = some (.int .i64 z.e)) (go_keep)
          ((go_at_call 17; refine (evBefore_any y z _).mono ?_; rintro e w1 ⟨rfl, hb1⟩; have hr1 := bcellD hb1))
        have hb2 : Below wr.heap.size wr w1 := (Below.refl _ _).drew.trans hb1
        have hU2 := hU.below hb2
        clear hU hb1 hr1 hb2 x0 x1 x2 x3 x4 y0 y1 y2 y3 y4 hgw
        cases hbz : bef y z with
        | false =>
          go_wp2
          go_roundg (n - (k + 1))
          case rel =>
            refine ⟨k + 1, L, by omega, rfl, rfl, rfl, hU2.stop (fun _ => ?_)⟩
            rw [HP.out.1, HX.out.1, HX.out.2]; exact hbz
          case measure => omega
        | true =>
          have ga := hU2.ownE.at5 (i := i) (by rw [hU2.len]; exact hik)
          rw [HX.out.1] at ga
          obtain ⟨x0, x1, x2, x3, x4⟩ := ga
          go_upto_region 11 with fail
          clear x0 x1 x2 x3 x4
          have hst := hU2.step (o := .cells #[.int .i64 y.a, .int .i64 y.b, .int .i64 y.c, .int .i64 y.d, .int .i64 y.e] 29) hi1 HP.out.1 (by rw [HX.out.1, HX.out.2]; exact hbz)
          rw [HX.out.1, HX.out.2] at hst
          have ha : Below w1.heap.size w1 (w1.alloc (.cells #[.int .i64 y.a, .int .i64 y.b, .int .i64 y.c, .int .i64 y.d, .int .i64 y.e] 29)) := (Below.refl _ _).alloc (Nat.le_refl _) _
          have hX : Box5 (w1.alloc (.cells #[.int .i64 y.a, .int .i64 y.b, .int .i64 y.c, .int .i64 y.d, .int .i64 y.e] 29)) w1.heap.size 29 y := heap_alloc_new _ _
          have hU3 := hU2.below ha
          have hgb : w.heap.size ≠ w1.heap.size := Nat.ne_of_lt hU2.ownE.lt
          generalize w1.alloc (.cells #[.int .i64 y.a, .int .i64 y.b, .int .i64 y.c, .int .i64 y.d, .int .i64 y.e] 29) = w2 at hst ha hX hU3 ⊢
          generalize w1.heap.size = B at hX hgb ⊢
          clear ha hU2
          have gb := hU3.ownE.at5 (i := p) (by rw [hU3.len]; exact hpk)
          have ga := hU3.ownE.at5 (i := i) (by rw [hU3.len]; exact hik)
          have fz := fun o => World.ownsRow.frozenAt hU3.ownE o
          rw [HX.out.2] at gb
          rw [HX.out.1] at ga
          obtain ⟨x0, x1, x2, x3, x4⟩ := gb
          obtain ⟨y0, y1, y2, y3, y4⟩ := ga
          go_upto_region 12 with fail
          clear x0 x1 x2 x3 x4 fz y0 y1 y2 y3 y4
          have hX3 : Box5 (put5 w2 w.heap.size (i * 5) z) B 29 y := (put5_other (Ne.symm hgb)).trans hX
          have hO3 : OwnEv (put5 w2 w.heap.size (i * 5) z) 29 w.heap.size n (L.set i z) := put5_own hU3.ownE (by rw [hU3.len]; exact hik)
          have hL3 : (L.set i z).length = k + 1 := by rw [List.length_set]; exact hU3.len
          unfold put5 at hX3 hO3 hst
          generalize ((((w2.setCell ⟨w.heap.size, i * 5, none⟩ (.int .i64 z.a)).setCell ⟨w.heap.size, i * 5 + 1, none⟩ (.int .i64 z.b)).setCell ⟨w.heap.size, i * 5 + 2, none⟩ (.int .i64 z.c)).setCell ⟨w.heap.size, i * 5 + 3, none⟩ (.int .i64 z.d)).setCell ⟨w.heap.size, i * 5 + 4, none⟩ (.int .i64 z.e) = w4 at hX3 hO3 hst ⊢
          clear hU3 hX
          have gb := hO3.at5 (i := p) (by rw [hL3]; exact hpk)
          have fz := fun o => World.ownsRow.frozenAt hO3 o
          generalize gt (L.set i z) p = zz at gb
          obtain ⟨x0, x1, x2, x3, x4⟩ := gb
          obtain ⟨y0, y1, y2, y3, y4, -⟩ := hX3.cells
          clear hX3 hO3
          go_wp2
          go_roundg p
          case rel => exact ⟨p, _, rfl, rfl, hst⟩
          case measure => have := HP.out.2; omega
    · obtain rfl : k = n := by omega
      go_wp2
      go_ret
      exact ⟨L, rfl, hF⟩
end Go.Proofs.Qxb6001094a

import Derived.Test.Qxb6001094aEB
namespace Go.Proofs.Qxb6001094a
open Go.RowKit Go.Deep

attribute [local go_sem] Go.wp_at_zero Go.wp_at_succ

/-- The drain, k events out. -/
structure DrainR (w2 w5 wr : World) (Q g n k r : Nat) (l O R : List E5) : Prop where
  len : O.length = k
  lenR : R.length = r
  qat : QAt wr Q g n R
  own : wr.ownsRow w5.heap.size 29 5 (.slice (some ⟨w5.heap.size, 0, none⟩) k n) k (flat O)
  perm : (O ++ R).Perm l
  heap : IsHeap R.length (gt R)
  ord : ∀ j, j + 1 = k → ∀ x ∈ R, bef x (gt O j) = false
  bel : Below w2.heap.size w2 wr
  size : w5.heap.size < wr.heap.size

theorem DrainR.ownE {w2 w5 wr : World} {Q g n k r : Nat} {l O R : List E5} (h : DrainR w2 w5 wr Q g n k r l O R) : OwnEv wr 29 w5.heap.size n O := by
  unfold OwnEv; rw [h.len]; exact ownsRow_zero' h.own

theorem ownsRow_block {w w' : World} {base e size b n k : Nat} {xs : List Value} (h : w.ownsRow base e size (.slice (some ⟨b, 0, none⟩) k n) k xs) (hw : w'.heap[b]? = w.heap[b]?) : w'.ownsRow base e size (.slice (some ⟨b, 0, none⟩) k n) k xs := by
  obtain ⟨h1, ⟨h2, _⟩ | ⟨g, cap, cur, a1, a2, a3, a4⟩⟩ := h
  · cases h2
  · cases a1
    exact ⟨h1, .inr ⟨b, n, cur, rfl, a2, hw.trans a3, a4⟩⟩
/-- One pop and one append. -/
theorem DrainR.next {w2 w5 wr w6 w7 w8 w9 : World} {Q g n k r : Nat} {l O R R' : List E5} {f : E5} {o : Obj} (h : DrainR w2 w5 wr Q g n k (r + 1) l O R)
    (hg : w2.heap.size ≤ g) (hQ : w2.heap.size ≤ Q) (hf : gt R 0 = f)
    (hP : PopP wr w6 Q g n R R') (hb7 : Below w6.heap.size w6 w7) (hb8 : Below w7.heap.size w7 w8) (hown : w9.ownsRow w5.heap.size 29 5 (.slice (some ⟨w5.heap.size, 0, none⟩) (k + 1) n) (k + 1) (flat O ++ cells5 f))
    (hgr : (w8.alloc o).grownBy w9 (some w5.heap.size)) (hQ5 : Q < w5.heap.size) (hg5 : g < w5.heap.size) : DrainR w2 w5 w9 Q g n (k + 1) r l (O ++ [f]) R' := by
  have hs := h.bel.size
  have hs5 := h.size
  have hs6 := hP.kept.size
  have hs7 := hb7.size
  have hs8 := hb8.size
  have hlr := hP.len
  have hlR := h.lenR
  have hmin : ∀ x ∈ R, bef x f = false := by
    intro x hx
    obtain ⟨i, hi, rfl⟩ := List.getElem_of_mem hx
    rw [← gt_of_lt hi, ← hf]
    exact h.heap.min i hi
  have hsub : ∀ x ∈ R', x ∈ R := fun x hx => hP.perm.mem_iff.1 (List.mem_cons_of_mem _ hx)
  have hb69 : ∀ B, B ≤ w5.heap.size → Below B w6 w9 := fun B hB =>
    (((hb7.mono (by omega)).trans (hb8.mono (by omega))).alloc (by omega) _).grown hgr (by simp; omega) (by simp; omega)
  refine ⟨by simp [h.len], by omega, ⟨((hb69 _ (Nat.le_refl _)).block _ hQ5).trans hP.q, ?_⟩, by rw [flat_append, flat_one]; exact hown, ?_, hP.heap h.heap, ?_, ?_, ?_⟩
  · exact hP.own.of_block ((hb69 _ (Nat.le_refl _)).block _ hg5)
  · rw [List.append_assoc]
    refine List.Perm.trans (List.Perm.append_left O ?_) h.perm
    rw [← hf]
    exact hP.perm
  · intro j hj x hx
    have e : gt (O ++ [f]) j = f := by
      unfold gt
      obtain rfl : j = O.length := by rw [h.len]; omega
      simp [List.getD]
    rw [e]
    exact hmin x (hsub x hx)
  · exact h.bel.trans ((hP.kept.below hQ hg hs).trans (hb69 _ (by omega)))
  · have := (hb69 0 (Nat.zero_le _)).size
    omega

set_option maxRecDepth 100000 in
set_option maxHeartbeats 1000000 in
theorem law4 (a : Option Addr) (c : Nat) (l : List E5) (w : World) (hm : l.length ≤ maxLen) (hE : EvsIn w a l) (hnil : a = none → l = []) :
    Calls Try.prog 4 #[.slice a l.length c] w fun e w' => e = .returned (.bool true) ∧ Below w.heap.size w w' := by
  obtain ⟨n, hN⟩ : ∃ n, l.length = n := ⟨_, rfl⟩
  have HN : Hid (l.length = n) := hN
  have HC : Hid (EvsIn w a l ∧ (a = none → l = [])) := ⟨hE, hnil⟩
  rw [hN] at hm ⊢
  clear hE hnil hN
  go_enter Try.func4, Try.ntmps4
  go_wp2_with fail
  refine (bytes4_any a n c w hm).mono ?_
  rintro e w0 ⟨⟨b, rfl, -⟩, rfl⟩
  unfold maxLen at hm
  cases b with
  | false =>
    go_wp2
    go_ret
    exact ⟨rfl, Below.refl _ _⟩
  | true =>
  by_cases hbig : 16384 < n
  · have hbz : (16384 : Int) < (n : Int) := by omega
    go_wp2
    go_ret
    exact ⟨rfl, Below.refl _ _⟩
  have hsm : n ≤ 16384 := by omega
  have hbz : decide ((16384 : Int) < (n : Int)) = false := decide_eq_false (by omega)
  have hle : l.length ≤ 131072 := by rw [HN.out]; omega
  have K2 := cloneEvs_any a c l w0 hle HC.out.1 HC.out.2
  rw [HN.out] at K2
  have H2 : Hid (Calls _ _ _ _ _) := K2
  clear K2 hbig
  go_wp2_with fail
  refine H2.out.mono ?_
  rintro e w1 ⟨a2, rfl, hE1, hb1⟩
  have K3 := heapOf_any a2 n l w1 hle hE1
  rw [HN.out] at K3
  have H3 : Hid (Calls _ _ _ _ _) := K3
  clear K3 H2 HC
  go_wp2_with fail
  refine H3.out.mono ?_
  rintro e w2 ⟨L, rfl, hH⟩
  have hLn : L.length = n := hH.len
  have hHp : L.Perm l := by have := hH.perm; rwa [← HN.out, List.take_length] at this
  have hHh : IsHeap n (gt L) := hH.heap
  have hoL : OwnEv w2 29 w1.heap.size n L := by unfold OwnEv; rw [hLn]; exact ownsRow_zero' hH.own
  have hE2 := hE1.below hH.bel
  have hbb2 := hb1.trans (hH.bel.mono hb1.size)
  have K4 := toQueue_any (some ⟨w1.heap.size, 0, none⟩) n L w2 (by rw [hLn]; omega) hoL.evs
  rw [hLn] at K4
  have H4 : Hid (Calls _ _ _ _ _) := K4
  have HL : Hid (L.length = n ∧ L.Perm l ∧ IsHeap n (gt L)) := ⟨hLn, hHp, hHh⟩
  clear K4 H3 hH hLn hHp hHh hb1 hoL hE1
  go_wp2_with fail
  refine H4.out.mono ?_
  rintro e w3 ⟨rfl, hF⟩
  have hq3 := hF.own (by rw [HL.out.1]; omega)
  rw [show L.take n = L by rw [← HL.out.1, List.take_length]] at hq3
  have hb3 := hF.2
  clear H4 hF
  obtain ⟨i0, hi, hz0', hz1', hz2'⟩ := info_parts info29
  have HI : Hid (Try.prog.info? 29 = some i0 ∧ i0.zero = some (.agg #[.int .i64 0, .int .i64 0, .int .i64 0, .int .i64 0, .int .i64 0]) ∧ i0.size = 5 ∧ i0.bytes = 40) := ⟨hi, hz0', hz1', hz2'⟩
  have HBY : Hid (i0.bytes * n ≤ 281474976710656) := show _ ≤ _ by rw [hz2']; omega
  clear hi hz0' hz1' hz2'
  go_upto_region 8 with fail
  have hbq : Below w3.heap.size w3 (w3.alloc (.cells #[.slice (some ⟨w2.heap.size, 0, none⟩) n n] 26)) := (Below.refl _ _).alloc (Nat.le_refl _) _
  have hQ : QAt (w3.alloc (.cells #[.slice (some ⟨w2.heap.size, 0, none⟩) n n] 26)) w3.heap.size w2.heap.size n L := ⟨by rw [HL.out.1]; exact heap_alloc_new _ _, hq3.below hbq⟩
  have hbq2 := hb3.trans (hbq.mono hb3.size)
  have hGQ : w2.heap.size ≤ w3.heap.size := hb3.size
  have hQs : w3.heap.size < (w3.alloc (.cells #[.slice (some ⟨w2.heap.size, 0, none⟩) n n] 26)).heap.size := by simp
  generalize w3.alloc (.cells #[.slice (some ⟨w2.heap.size, 0, none⟩) n n] 26) = w5 at hbq hQ hbq2 hQs ⊢
  generalize w3.heap.size = Q at hQ hGQ hQs ⊢
  clear hbq hb3 hq3
  have hG5 : w2.heap.size < w5.heap.size := hQ.own.lt
  go_wp2_with (at_make; go_must (refine wpList_make_own _ rfl (.const (.int .i64 0)) (.tmp 21) 22 rfl w5.heap.size 29 i0 (.agg #[.int .i64 0, .int .i64 0, .int .i64 0, .int .i64 0, .int .i64 0]) 5 Try.underlying22 HI.out.1 HI.out.2.1 HI.out.2.2.1 .i64 .i64 (n : Int) n rfl rfl rfl HBY.out (by unfold maxLen; omega) (Nat.le_refl _) ?_); intro w6 hown6 hgrow6)
  have hb6 : Below w5.heap.size w5 w6 := (Below.refl _ _).grown hgrow6 (Nat.le_refl _) (by simp)
  have h0 : DrainR w2 w5 w6 Q w2.heap.size n 0 n l [] L := ⟨rfl, HL.out.1, hQ.below hb6, by simpa [flat] using hown6, by simpa using HL.out.2.1, by rw [HL.out.1]; exact HL.out.2.2, fun j hj => by omega, hbq2.trans (hb6.mono hbq2.size), (by
    obtain ⟨_, ⟨h1, _⟩ | ⟨g1, c1, cur, h1, h2, h3, _⟩⟩ := hown6
    · cases h1
    · cases h1; exact lt_of_block h3)⟩
  clear hown6 hgrow6 hb6 hbq2 hQ
  go_loopg [5, 6, 7] n (fun gk q i _ wr => ∃ (k r : Nat) (O R : List E5), k + r = n ∧ gk = r ∧ q = .slice (some ⟨w5.heap.size, 0, none⟩) k n ∧ i = .int .i64 k ∧ DrainR w2 w5 wr Q w2.heap.size n k r l O R)
  case atStart => exact ⟨0, n, [], L, by omega, rfl, rfl, rfl, h0⟩
  case round =>
    clear h0
    obtain ⟨k, r, O, R, hkr, rfl, rfl, rfl, hD⟩ := hrel
    have qc := cell_of_one hD.qat.q
    rw [hD.lenR] at qc
    cases gk with
    | zero =>
      obtain rfl : k = n := by omega
      have hol := hD.len
      have hO0 : R = [] := List.eq_nil_of_length_eq_zero hD.lenR
      have hpp := hD.perm
      rw [hO0, List.append_nil] at hpp
      have K6 := same_perm _ a2 k k O l wr (by rw [hol]; omega) (by rw [hol]; omega) (by rw [HN.out]; omega) hD.ownE.evs (hE2.below hD.bel) hpp
      rw [hol, HN.out] at K6
      have H6 : Hid (Calls _ _ _ _ _) := K6
      clear K6 hpp hO0 hol
      go_wp2_with fail
      refine H6.out.mono ?_
      rintro e w12 ⟨rfl, hb12⟩
      have hfin := hbb2.trans (hD.bel.mono hbb2.size)
      go_wp2
      go_ret
      exact ⟨rfl, hfin.trans (hb12.mono hfin.size)⟩
    | succ r =>
      have hkn : k < n := by omega
      have hkz : (k : Int) < (n : Int) := by omega
      have hnq : (((r : Int) + 1) != (n : Int) - k) = false := by simp; omega
      have hRl := hD.lenR
      go_wp2_with fail
      refine (zzPop_any Q w2.heap.size n R wr (by rw [hRl]; omega) (by rw [hRl]; omega) hD.qat).mono ?_
      rintro e w6 ⟨rfl, R', hP⟩
      clear qc
      go_wp2_with fail
      refine (fromEvent_any _ _).mono ?_
      rintro e w7 ⟨rfl, hb7⟩
      obtain ⟨f, hf⟩ : ∃ f, gt R 0 = f := ⟨_, rfl⟩
      rw [hf]
      unfold E5.val
      go_upto_region 15 with fail
      have hb8 : Below w7.heap.size w7 (w7.alloc (.cells #[.int .i64 f.a, .int .i64 f.b, .int .i64 f.c, .int .i64 f.d, .int .i64 f.e] 29)) := (Below.refl _ _).alloc (Nat.le_refl _) _
      have hX8 : Box5 (w7.alloc (.cells #[.int .i64 f.a, .int .i64 f.b, .int .i64 f.c, .int .i64 f.d, .int .i64 f.e] 29)) w7.heap.size 29 f := heap_alloc_new _ _
      have hb78 := hb7.trans (hb8.mono hb7.size)
      generalize w7.alloc (.cells #[.int .i64 f.a, .int .i64 f.b, .int .i64 f.c, .int .i64 f.d, .int .i64 f.e] 29) = w8 at hb8 hX8 hb78 ⊢
      generalize w7.heap.size = gb at hX8 ⊢
      have hg5w : w5.heap.size < wr.heap.size := hD.size
      have hoO : w8.ownsRow w5.heap.size 29 5 (.slice (some ⟨w5.heap.size, 0, none⟩) k n) k (flat O) := by
        have h6 := hP.kept.block w5.heap.size hg5w (by omega) (by omega)
        have h8 := hb78.block w5.heap.size (by have := hP.kept.size; omega)
        exact ownsRow_block hD.own (h8.trans h6)
      go_cut [48] from 23 to 52 (fun s48 wc => s48 = .bool false ∧ Below w8.heap.size w8 wc)
      case first =>
        by_cases hk0 : k = 0
        · subst hk0
          go_quiet (fail)
          go_wp2
          go_meet
          exact ⟨rfl, ⟨rfl, rfl, rfl, Nat.le_refl _, fun _ _ => rfl⟩⟩
        · obtain ⟨j, hjk⟩ : ∃ j, j + 1 = k := ⟨k - 1, by omega⟩
          have hjd : decide ((0 : Int) < (k : Int)) = true := decide_eq_true (by omega)
          have hjdn : decide (0 < k) = true := decide_eq_true (by omega)
          have hjw : IntKind.i64.wrap ((k : Int) - 1) = (j : Int) := by rw [IntKind.wrap_i64]; omega
          have hjz : (j : Int) < (k : Int) := by omega
          have hj0 : (0 : Int) ≤ (j : Int) := by omega
          have hjn : j < k := by omega
          have hjl : j < O.length := by rw [hD.len]; omega
          have hoE : OwnEv w8 29 w5.heap.size n O := by unfold OwnEv; rw [hD.len]; exact ownsRow_zero' hoO
          have ga := hoE.at5 hjl
          have hbf : bef f (gt O j) = false := by
            refine hD.ord j hjk f ?_
            rw [← hf, gt_of_lt (by rw [hRl]; omega)]
            exact List.getElem_mem _
          generalize gt O j = y at ga hbf
          obtain ⟨x0, x1, x2, x3, x4⟩ := ga
          obtain ⟨y0, y1, y2, y3, y4, -⟩ := hX8.cells
          have hgl : gb < w8.heap.size := lt_of_block hX8
          have hg5l : w5.heap.size < w8.heap.size := hoE.lt
          clear hkr hkn hkz hnq hk0 hjk hjl hD hP hoO hoE hX8 hb7 hb8 hb78
          go_region_held3 (fun w' => w'.cell? ⟨gb, 0, none⟩ = some (.int .i64 f.a) ∧ w'.cell? ⟨gb, 1, none⟩ = some (.int .i64 f.b) ∧ w'.cell? ⟨gb, 2, none⟩ = some (.int .i64 f.c) ∧ w'.cell? ⟨gb, 3, none⟩ = some (.int .i64 f.d) ∧ w'.cell? ⟨gb, 4, none⟩ = some (.int .i64 f.e) ∧ w'.cell? ⟨w5.heap.size, j * 5, none⟩ = some (.int .i64 y.a) ∧ w'.cell? ⟨w5.heap.size, j * 5 + 1, none⟩ = some (.int .i64 y.b) ∧ w'.cell? ⟨w5.heap.size, j * 5 + 2, none⟩ = some (.int .i64 y.c) ∧ w'.cell? ⟨w5.heap.size, j * 5 + 3, none⟩ = some (.int .i64 y.d) ∧ w'.cell? ⟨w5.heap.size, j * 5 + 4, none⟩ = some (.int .i64 y.e)) (go_keep)
            ((go_at_call 17; refine (evBefore_any f y _).mono ?_; rintro e w1' ⟨rfl, hb1⟩; have hr1 := bcellD hb1))
          go_wp2
          go_meet
          exact ⟨rfl, (Below.refl _ _).drew.trans hb1⟩
      case rest =>
        obtain ⟨rfl, hbc⟩ := hcut
        have hoc := ownsRow_below hoO hbc
        obtain ⟨y0, y1, y2, y3, y4, -⟩ := (hX8.below hbc).cells
        have hgl : gb < wc.heap.size := lt_of_block (hX8.below hbc)
        go_wp2_with (at_builtin; go_must (refine wpList_append_fits _ rfl (.tmp 49) (.tmp 51) 22 rfl w5.heap.size 29 i0 5 Try.underlying22 HI.out.1 HI.out.2.2.1 w5.heap.size k n (flat O) rfl (hoc.alloc _) ⟨wc.heap.size, 0, none⟩ 1 1 (cells5 f) rfl rfl (World.news_of_block (heap_alloc_new _ _)) (cells5_one f) (by omega) ?_); intro w11 hown11 hgrow11)
        go_roundg r
        case rel => exact ⟨k + 1, r, O ++ [f], R', by omega, rfl, rfl, by go_num, hD.next (Nat.le_refl _) hGQ hf hP hb78 hbc hown11 hgrow11 hQs hG5⟩
        case measure => omega

end Go.Proofs.Qxb6001094a

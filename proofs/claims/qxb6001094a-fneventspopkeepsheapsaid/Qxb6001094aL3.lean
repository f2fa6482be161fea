import Derived.Test.Qxb6001094aEA
namespace Go.Proofs.Qxb6001094a
open Go.RowKit Go.Deep

set_option maxRecDepth 100000 in
set_option maxHeartbeats 1000000 in
theorem law3 (a : Option Addr) (c : Nat) (l : List E5) (w : World) (hm : l.length ≤ maxLen) (hE : EvsIn w a l) (hnil : a = none → l = []) :
    Calls Try.prog 3 #[.slice a l.length c] w fun e w' => e = .returned (.bool true) ∧ Below w.heap.size w w' := by
  obtain ⟨n, hN⟩ : ∃ n, l.length = n := ⟨_, rfl⟩
  have HN : Hid (l.length = n) := hN
  have HC : Hid (EvsIn w a l ∧ (a = none → l = [])) := ⟨hE, hnil⟩
  rw [hN] at hm ⊢
  clear hE hnil hN
  go_enter Try.func3, Try.ntmps3
  go_wp2_with fail
  refine (bytes3_any a n c w hm).mono ?_
  rintro e w0 ⟨⟨b, rfl, -⟩, rfl⟩
  unfold maxLen at hm
  cases b with
  | false =>
    go_wp2
    go_ret
    exact ⟨rfl, Below.refl _ _⟩
  | true =>
  by_cases hbig : 16384 < n
  · have hbz : (16384 : Int) < (n : Int) := by omega
    go_wp2
    go_ret
    exact ⟨rfl, Below.refl _ _⟩
  by_cases hz : n = 0
  · subst hz
    go_wp2
    go_ret
    exact ⟨rfl, Below.refl _ _⟩
  have hz1 : 1 ≤ n := by omega
  have hz2 : ((n : Int) == 0) = false := by simp; omega
  have hsm : n ≤ 16384 := by omega
  have hbz : decide ((16384 : Int) < (n : Int)) = false := decide_eq_false (by omega)
  have hle : l.length ≤ 131072 := by rw [HN.out]; omega
  have K1 := isHeap_any a c l w0 hle HC.out.1
  rw [HN.out] at K1
  have H1 : Hid (Calls _ _ _ _ _) := K1
  clear K1 hbig hz
  go_wp2_with fail
  refine H1.out.mono ?_
  rintro e w1 ⟨⟨b, rfl, hbi⟩, hb1⟩
  cases b with
  | false =>
    go_wp2
    go_ret
    exact ⟨rfl, hb1⟩
  | true =>
  have hheap : IsHeap n (gt l) := hbi.1 rfl
  have K2 := cloneEvs_any a c l w1 hle (HC.out.1.below hb1) HC.out.2
  rw [HN.out] at K2
  have H2 : Hid (Calls _ _ _ _ _) := K2
  clear K2 H1 hbi
  go_wp2_with fail
  refine H2.out.mono ?_
  rintro e w2 ⟨a2, rfl, hE2, hb2⟩
  have K3 := toQueue_any a2 n l w2 hle hE2
  rw [HN.out] at K3
  have H3 : Hid (Calls _ _ _ _ _) := K3
  have hbb2 := hb1.trans (hb2.mono hb1.size)
  clear K3 H2 hb1 hb2 HC
  go_wp2_with fail
  refine H3.out.mono ?_
  rintro e w3 ⟨rfl, hF⟩
  have hq3 := hF.own (by rw [HN.out]; omega)
  rw [show l.take n = l by rw [← HN.out, List.take_length]] at hq3
  have hb3 := hF.2
  clear H3 hF
  go_wp2_with fail
  have hbq : Below w3.heap.size w3 (w3.alloc (.cells #[.slice (some ⟨w2.heap.size, 0, none⟩) n n] 26)) := (Below.refl _ _).alloc (Nat.le_refl _) _
  have hQ : QAt (w3.alloc (.cells #[.slice (some ⟨w2.heap.size, 0, none⟩) n n] 26)) w3.heap.size w2.heap.size n l := ⟨by rw [HN.out]; exact heap_alloc_new _ _, hq3.below hbq⟩
  have hbq2 := hb3.trans (hbq.mono hb3.size)
  have hGQ : w2.heap.size ≤ w3.heap.size := hb3.size
  have hQs : w3.heap.size < (w3.alloc (.cells #[.slice (some ⟨w2.heap.size, 0, none⟩) n n] 26)).heap.size := by simp
  generalize w3.alloc (.cells #[.slice (some ⟨w2.heap.size, 0, none⟩) n n] 26) = w4 at hbq hQ hbq2 hQs ⊢
  generalize w3.heap.size = Q at hQ hGQ hQs ⊢
  clear hbq hb3 hq3
  refine (zzPop_any Q w2.heap.size n l w4 hle (by rw [HN.out]; exact hz1) hQ).mono ?_
  rintro e w5 ⟨rfl, R, hP⟩
  have hb5 : Below w2.heap.size w2 w5 := hbq2.trans (hP.kept.below hGQ (Nat.le_refl _) hbq2.size)
  have hRl : R.length + 1 = n := by rw [hP.len]; exact HN.out
  have hq5 := hP.q
  have ho5 := hP.own
  have hPheap := hP.heap
  rw [HN.out] at hPheap
  have HP : Hid ((gt l 0 :: R).Perm l ∧ IsHeap R.length (gt R)) := ⟨hP.perm, hPheap hheap⟩
  clear hP hQ hbq2 hQs hPheap
  go_wp2_with fail
  refine (fromEvent_any _ _).mono ?_
  rintro e w6 ⟨rfl, hb6⟩
  have hmin : ∀ x ∈ l, bef x (gt l 0) = false := by
    intro x hx
    obtain ⟨i, hi, rfl⟩ := List.getElem_of_mem hx
    rw [← gt_of_lt hi]
    exact hheap.min i (by rw [← HN.out]; exact hi)
  have HMIN : Hid (∀ x ∈ l, bef x (gt l 0) = false) := hmin
  obtain ⟨f, hf⟩ : ∃ f, gt l 0 = f := ⟨_, rfl⟩
  rw [hf] at HP HMIN ⊢
  have hbb6 := hb5.trans (hb6.mono hb5.size)
  have hq6 := (hb6.block _ (lt_of_block hq5)).trans hq5
  have ho6 := ho5.below hb6
  clear hmin hf hheap hb5 hb6 hq5 ho5
  unfold E5.val
  go_upto_region 12 with fail
  have hb7 : Below w6.heap.size w6 (w6.alloc (.cells #[.int .i64 f.a, .int .i64 f.b, .int .i64 f.c, .int .i64 f.d, .int .i64 f.e] 29)) := (Below.refl _ _).alloc (Nat.le_refl _) _
  have hX7 : Box5 (w6.alloc (.cells #[.int .i64 f.a, .int .i64 f.b, .int .i64 f.c, .int .i64 f.d, .int .i64 f.e] 29)) w6.heap.size 29 f := heap_alloc_new _ _
  have hq7 := (hb7.block _ (lt_of_block hq6)).trans hq6
  have ho7 := ho6.below hb7
  have hbb7 := hbb6.trans (hb7.mono hbb6.size)
  generalize w6.alloc (.cells #[.int .i64 f.a, .int .i64 f.b, .int .i64 f.c, .int .i64 f.d, .int .i64 f.e] 29) = w7 at hb7 hX7 hq7 ho7 hbb7 ⊢
  generalize w6.heap.size = gb at hX7 ⊢
  clear hb7 hbb6 hq6 ho6
  obtain ⟨r, hr⟩ : ∃ r, R.length = r := ⟨_, rfl⟩
  rw [hr] at hq7 HP hRl
  have HR : Hid (R.length = r) := hr
  have hrn1 : r + 1 ≤ n := by omega
  have hrn2 : n ≤ r + 1 := by omega
  have hnq : ((r : Int) != (n : Int) - 1) = false := by simp; omega
  have qc := cell_of_one hq7
  obtain ⟨i0, hi, hz0', hz1', hz2'⟩ := info_parts info29
  have HI : Hid (Try.prog.info? 29 = some i0 ∧ i0.zero = some (.agg #[.int .i64 0, .int .i64 0, .int .i64 0, .int .i64 0, .int .i64 0]) ∧ i0.size = 5 ∧ i0.bytes = 40) := ⟨hi, hz0', hz1', hz2'⟩
  have HBY : Hid (i0.bytes * n ≤ 281474976710656) := show _ ≤ _ by rw [hz2']; omega
  clear hr hRl hi hz0' hz1' hz2' hq7
  go_upto_region 15 with (at_make; go_must (refine wpList_make_own _ rfl (.const (.int .i64 0)) (.tmp 35) 22 rfl w7.heap.size 29 i0 (.agg #[.int .i64 0, .int .i64 0, .int .i64 0, .int .i64 0, .int .i64 0]) 5 Try.underlying22 HI.out.1 HI.out.2.1 HI.out.2.2.1 .i64 .i64 (n : Int) n rfl rfl rfl HBY.out (by unfold maxLen; omega) (Nat.le_refl _) ?_); intro w8 hown8 hgrow8)
  have h0 : FillR w7 w8 29 n 0 R := ⟨by simpa [flat] using hown8, (Below.refl _ _).grown hgrow8 (Nat.le_refl _) (by simp)⟩
  have qc8 := cell_below' h0.2 qc
  clear hown8 hgrow8 hnq
  go_wp2
  clear qc8
  go_loopg [5, 7, 39] r (fun gk q _ i wr => ∃ k : Nat, k ≤ r ∧ gk = r - k ∧ q = .slice (some ⟨w7.heap.size, 0, none⟩) k n ∧ i = .int .i64 k ∧ FillR w7 wr 29 n k R)
  case atStart => exact ⟨0, Nat.zero_le _, rfl, rfl, rfl, h0⟩
  case round =>
    obtain ⟨k, hk, rfl, rfl, rfl, hF⟩ := hrel
    by_cases hlt : k < r
    · have hlR : k < R.length := by have := HR.out; omega
      obtain ⟨x1, x2, x3, x4, x5⟩ := (ho7.at5 hlR).below hF.2
      have hts := take_snoc5 R k hlR
      generalize gt R k = x at x1 x2 x3 x4 x5 hts
      have HT : Hid (R.take (k + 1) = R.take k ++ [x]) := hts
      clear hts
      go_wp2_with fail
      refine (fromEvent_any x _).mono ?_
      rintro e w9 ⟨rfl, hb9⟩
      have hbx : Below wr.heap.size wr w9 := ((Below.refl _ _).alloc (Nat.le_refl _) _).trans (hb9.mono (by simp))
      have hown2 := ownsRow_below hF.1 hbx
      have hbw := hF.2.trans (hbx.mono hF.2.size)
      clear hb9 hbx hF x1 x2 x3 x4 x5
      unfold E5.val
      go_wp2_with (at_builtin; go_must (refine wpList_append_fits _ rfl (.tmp 43) (.tmp 46) 22 rfl w7.heap.size 29 i0 5 Try.underlying22 HI.out.1 HI.out.2.2.1 w7.heap.size k n (flat (R.take k)) rfl (hown2.alloc _) ⟨w9.heap.size, 0, none⟩ 1 1 (cells5 x) rfl rfl (World.news_of_block (heap_alloc_new _ _)) (cells5_one x) (by omega) ?_); intro w10 hown10 hgrow10)
      go_roundg (r - (k + 1))
      case rel =>
        refine ⟨k + 1, by omega, rfl, by rfl, by go_num, ?_, ?_⟩
        · rw [← flat_snoc HT.out]; exact hown10
        · exact ((hbw.alloc hbw.size _).grown hgrow10 (by have := hbw.size; simp; omega) (by simp))
      case measure => omega
    · obtain rfl : k = r := by omega
      have hoR := hF.own (by rw [HR.out]; omega)
      rw [show R.take k = R by rw [← HR.out, List.take_length]] at hoR
      have hEr := hoR.evs
      have K5 := isHeap_any (some ⟨w7.heap.size, 0, none⟩) n R wr (by rw [HR.out]; omega) hEr
      rw [HR.out] at K5
      have H5 : Hid (Calls _ _ _ _ _) := K5
      clear K5 hEr
      go_wp2_with fail
      refine H5.out.mono ?_
      rintro e w9 ⟨⟨bb, rfl, hbi⟩, hb9⟩
      obtain rfl : bb = true := hbi.2 HP.out.2
      have hbb9 : Below w7.heap.size w7 w9 := hF.2.trans (hb9.mono hF.2.size)
      have hown9 := ownsRow_below hF.1 hb9
      have hE9 := hE2.below (hbb7.trans (hbb9.mono hbb7.size))
      have hX9 := hX7.below hbb9
      rw [show R.take k = R by rw [← HR.out, List.take_length]] at hown9
      clear H5 hbi hF hb9 hoR
      go_wp2
      go_loopg [9, 54] n (fun gk _ i wr => ∃ t : Nat, t ≤ n ∧ gk = n - t ∧ i = .int .i64 t ∧ Below w9.heap.size w9 wr)
      case atStart => exact ⟨0, Nat.zero_le _, rfl, rfl, Below.refl _ _⟩
      case round =>
        obtain ⟨t, ht, rfl, rfl, hbt⟩ := hrel
        by_cases hlt' : t < n
        · rcases hE9 with h0' | ⟨b, o, rfl, hA⟩
          · have := HN.out; rw [h0'] at this; simp at this; omega
          have htl : t < l.length := by have := HN.out; omega
          obtain ⟨x1, x2, x3, x4, x5⟩ := (hA t htl).below hbt
          have hbf : bef (gt l t) f = false := HMIN.out _ (by rw [gt_of_lt htl]; exact List.getElem_mem htl)
          generalize gt l t = x at x1 x2 x3 x4 x5 hbf
          obtain ⟨y0, y1, y2, y3, y4, -⟩ := (hX9.below hbt).cells
          have hgbl : gb < wr.heap.size := lt_of_block (hX9.below hbt)
          go_wp2_with fail
          refine (evBefore_any x f _).mono ?_
          rintro e w10 ⟨rfl, hb10⟩
          have hbx : Below wr.heap.size wr w10 := ((Below.refl _ _).alloc (Nat.le_refl _) _).trans (hb10.mono (by simp))
          clear hb10 x1 x2 x3 x4 x5 y0 y1 y2 y3 y4
          go_wp2
          go_roundg (n - (t + 1))
          case rel => exact ⟨t + 1, by omega, rfl, by go_num, hbt.trans (hbx.mono hbt.size)⟩
          case measure => omega
        · obtain rfl : t = n := by omega
          obtain ⟨y0, y1, y2, y3, y4, -⟩ := (hX9.below hbt).cells
          have hown10 := ownsRow_below hown9 hbt
          have hE10 := hE9.below hbt
          have hbb10 := hbb9.trans (hbt.mono hbb9.size)
          clear hown9 hE9 hX9 hbb9 hbt
          go_wp2_with (at_builtin; go_must (refine wpList_append_fits _ rfl (.tmp 62) (.tmp 64) 22 rfl w7.heap.size 29 i0 5 Try.underlying22 HI.out.1 HI.out.2.2.1 w7.heap.size k t (flat R) rfl (hown10.alloc _) ⟨wr.heap.size, 0, none⟩ 1 1 (cells5 f) rfl rfl (World.news_of_block (heap_alloc_new _ _)) (cells5_one f) (by omega) ?_); intro w11 hown11 hgrow11)
          have hb11 : Below w7.heap.size w7 w11 := ((hbb10.alloc hbb10.size _).grown hgrow11 (by have := hbb10.size; simp; omega) (by simp))
          have hE11 : EvsIn w11 a2 l := hE2.below (hbb7.trans (hb11.mono hbb7.size))
          have hRl : (R ++ [f]).length = k + 1 := by simp [HR.out]
          have hoR : OwnEv w11 29 w7.heap.size t (R ++ [f]) := by
            unfold OwnEv
            rw [hRl, flat_append, flat_one]
            exact ownsRow_zero' hown11
          have K6 := same_perm _ a2 t t (R ++ [f]) l w11 (by rw [hRl]; omega) (by rw [hRl]; omega) (by rw [HN.out]; omega) hoR.evs hE11 ((List.perm_append_singleton _ _).trans HP.out.1)
          rw [hRl, HN.out] at K6
          have H6 : Hid (Calls _ _ _ _ _) := K6
          have hfin : Below w0.heap.size w0 w11 := hbb2.trans ((hbb7.trans (hb11.mono hbb7.size)).mono hbb2.size)
          clear K6 hoR hE11 hown11 hgrow11 hE10 hown10 hbb10 y0 y1 y2 y3 y4 hRl
          go_wp2_with fail
          refine H6.out.mono ?_
          rintro e w12 ⟨rfl, hb12⟩
          go_wp2
          go_ret
          exact ⟨rfl, hfin.trans (hb12.mono hfin.size)⟩
end Go.Proofs.Qxb6001094a

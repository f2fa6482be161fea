import Derived.Test.Qxb6001094aE8
namespace Go.Proofs.Qxb6001094a
open Go.RowKit Go.Deep

attribute [local go_sem] Go.wp_at_zero Go.wp_at_succ

/-! ### The merge, plain -/
theorem drop_cons5 {l : List E5} {i : Nat} (h : i < l.length) : l.drop i = gt l i :: l.drop (i + 1) := by
  rw [List.drop_eq_getElem_cons h, gt_of_lt h]
theorem merge_takeA {A B : List E5} {i k : Nat} (hi : i < A.length) (h : ¬ k < B.length ∨ k < B.length ∧ less (gt B k) (gt A i) = false) :
    (A.drop i).merge (B.drop k) le5 = gt A i :: (A.drop (i + 1)).merge (B.drop k) le5 := by
  rw [drop_cons5 hi]
  rcases h with h | ⟨h, hl⟩
  · rw [show B.drop k = [] from List.drop_eq_nil_of_le (by omega)]; simp
  · rw [drop_cons5 h, List.cons_merge_cons_pos _ _ _ (by simp [le5, hl])]
theorem merge_takeB {A B : List E5} {i k : Nat} (hk : k < B.length) (h : ¬ i < A.length ∨ i < A.length ∧ less (gt B k) (gt A i) = true) :
    (A.drop i).merge (B.drop k) le5 = gt B k :: (A.drop i).merge (B.drop (k + 1)) le5 := by
  rw [drop_cons5 hk]
  rcases h with h | ⟨h, hl⟩
  · rw [show A.drop i = [] from List.drop_eq_nil_of_le (by omega)]; simp
  · rw [drop_cons5 h, List.cons_merge_cons_neg _ _ _ (by simp [le5, hl])]
theorem merge_sorted {A B : List E5} (hA : Sorted5 A) (hB : Sorted5 B) : Sorted5 (A.merge B le5) :=
  List.pairwise_merge le5_trans le5_total A B hA hB
theorem merge_perm {A B l : List E5} {m : Nat} (hA : A.Perm (l.take m)) (hB : B.Perm (l.drop m)) : (A.merge B le5).Perm l := by
  have h1 : (A.merge B le5).Perm (A ++ B) := List.merge_perm_append le5
  have h2 := hA.append hB
  rw [List.take_append_drop] at h2
  exact h1.trans h2
theorem heap_alloc_new2 (w : World) (o1 o2 : Obj) : ((w.alloc o1).alloc o2).heap[w.heap.size + 1]? = some o2 := by
  simpa using heap_alloc_new (w.alloc o1) o2

/-- What evSort leaves. -/
structure SortP (w w' : World) (g cap : Nat) (l S : List E5) : Prop where
  own : OwnEv w' 29 g cap S
  perm : S.Perm l
  sorted : Sorted5 S
  bel : Below w.heap.size w w'

theorem FillR.own {w wr : World} {t : TypeId} {n k : Nat} {l : List E5} (h : FillR w wr t n k l) (hk : k ≤ l.length) : OwnEv wr t w.heap.size n (l.take k) := by
  obtain ⟨h1, ⟨h2, _⟩ | ⟨g1, c1, cur, h2, h3, h4⟩⟩ := h.1
  · cases h2
  · cases h2
    have e : (l.take k).length = k := by rw [List.length_take]; omega
    exact ⟨by rw [e]; exact h1, .inr ⟨_, _, cur, by rw [e], Nat.zero_le _, by rw [e]; exact h4⟩⟩

set_option maxRecDepth 100000 in
set_option maxHeartbeats 1000000 in
theorem sort_small (a : Option Addr) (c : Nat) (l : List E5) (w : World) (hn : l.length ≤ 1) (hE : EvsIn w a l) :
    Calls Try.prog 41 #[.slice a l.length c] w fun e w' => e = .returned (.slice (some ⟨w.heap.size, 0, none⟩) l.length 1) ∧ FillR w w' 29 1 l.length l := by
  have HE : Hid (EvsIn w a l) := hE
  obtain ⟨i0, hi, hz0, hz1, hz2⟩ := info_parts info29
  have HI : Hid (Try.prog.info? 29 = some i0 ∧ i0.zero = some (.agg #[.int .i64 0, .int .i64 0, .int .i64 0, .int .i64 0, .int .i64 0]) ∧ i0.size = 5 ∧ i0.bytes = 40) := ⟨hi, hz0, hz1, hz2⟩
  have HBY : Hid (i0.bytes * 1 ≤ 281474976710656) := show _ ≤ _ by rw [hz2]; omega
  have hd14 : decide ((l.length : Int) ≤ 1) = true := decide_eq_true (by omega)
  clear hE hi hz0 hz1 hz2
  go_enter Try.func41, Try.ntmps41
  go_wp2_with (at_make; go_must (refine wpList_make_own _ rfl (.const (.int .i64 0)) (.const (.int .i64 1)) 22 rfl w.heap.size 29 i0 (.agg #[.int .i64 0, .int .i64 0, .int .i64 0, .int .i64 0, .int .i64 0]) 5 Try.underlying22 HI.out.1 HI.out.2.1 HI.out.2.2.1 .i64 .i64 1 1 rfl rfl rfl HBY.out (by unfold maxLen; omega) (Nat.le_refl _) ?_); intro w1 hown1 hgrow1)
  have h0 : FillR w w1 29 1 0 l := ⟨by simpa [flat] using hown1, (Below.refl _ _).grown hgrow1 (Nat.le_refl _) (by simp)⟩
  clear hown1 hgrow1
  go_loopg [3, 5, 18] l.length (fun gk q _ i wr => ∃ k : Nat, k ≤ l.length ∧ gk = l.length - k ∧ q = .slice (some ⟨w.heap.size, 0, none⟩) k 1 ∧ i = .int .i64 k ∧ FillR w wr 29 1 k l)
  case atStart => exact ⟨0, Nat.zero_le _, rfl, rfl, rfl, h0⟩
  case round =>
    obtain ⟨k, hk, rfl, rfl, rfl, hF⟩ := hrel
    by_cases hlt : k < l.length
    · rcases HE.out with h0 | ⟨b, o, rfl, hA⟩
      · rw [h0] at hlt; simp at hlt
      obtain ⟨x1, x2, x3, x4, x5⟩ := (hA k hlt).below hF.2
      have hts := take_snoc5 l k hlt
      generalize gt l k = x at x1 x2 x3 x4 x5 hts
      have HT : Hid (l.take (k + 1) = l.take k ++ [x]) := hts
      have hbw := hF.2
      have hown2 := hF.1
      clear hts HE hA hF
      go_wp2_with (at_builtin; go_must (refine wpList_append_fits _ rfl (.tmp 22) (.tmp 24) 22 rfl w.heap.size 29 i0 5 Try.underlying22 HI.out.1 HI.out.2.2.1 w.heap.size k 1 (flat (l.take k)) rfl ((hown2.alloc _).alloc _) ⟨wr.heap.size + 1, 0, none⟩ 1 1 (cells5 x) rfl rfl (World.news_of_block (heap_alloc_new2 _ _ _)) (cells5_one x) (by omega) ?_); intro w3 hown3 hgrow3)
      go_roundg (l.length - (k + 1))
      case rel =>
        refine ⟨k + 1, by omega, rfl, by rfl, by go_num, ?_, ?_⟩
        · rw [← flat_snoc HT.out]; exact hown3
        · have hs := hbw.size
          exact (((hbw.alloc hs _).alloc (by simp; omega) _).grown hgrow3 (by simp; omega) (by simp))
      case measure => omega
    · obtain rfl : k = l.length := by omega
      go_wp2
      go_ret
      exact ⟨rfl, hF⟩

theorem EvsAt.takeE {w : World} {b o : Nat} {l : List E5} (h : EvsAt w b o l) (k : Nat) : EvsAt w b o (l.take k) := by
  intro i hi
  rw [List.length_take] at hi
  rw [gt_take (by omega)]
  exact h i (by omega)
theorem gt_drop (l : List E5) (k i : Nat) : gt (l.drop k) i = gt l (k + i) := by
  unfold gt; simp [List.getD]
theorem EvsAt.dropE {w : World} {b o : Nat} {l : List E5} (h : EvsAt w b o l) (k : Nat) : EvsAt w b (o + k * 5) (l.drop k) := by
  intro i hi
  rw [List.length_drop] at hi
  rw [gt_drop]
  have := h (k + i) (by omega)
  rwa [show o + (k + i) * 5 = o + k * 5 + i * 5 by omega] at this

/-- The contract of evSort at one length. -/
def SortOk (n : Nat) : Prop := ∀ (a : Option Addr) (c : Nat) (l : List E5) (w : World), l.length = n → l.length ≤ c → EvsIn w a l →
  Calls Try.prog 41 #[.slice a n c] w fun e w' => ∃ g cap S, e = .returned (.slice (some ⟨g, 0, none⟩) n cap) ∧ SortP w w' g cap l S

theorem ownsRow_zero' {w : World} {base e size n : Nat} {v : Value} {xs : List Value} (h : w.ownsRow base e size v n xs) : w.ownsRow 0 e size v n xs := by
  obtain ⟨h1, h2 | ⟨g, cap, cur, a1, a2, a3⟩⟩ := h
  · exact ⟨h1, .inl h2⟩
  · exact ⟨h1, .inr ⟨g, cap, cur, a1, Nat.zero_le _, a3⟩⟩
/-- evSort's merge, i of A and k of B taken. -/
structure MergeR (w2 wr : World) (n : Nat) (A B : List E5) (i k : Nat) (O : List E5) : Prop where
  len : O.length = i + k
  eq : O ++ (A.drop i).merge (B.drop k) le5 = A.merge B le5
  own : wr.ownsRow w2.heap.size 29 5 (.slice (some ⟨w2.heap.size, 0, none⟩) O.length n) O.length (flat O)
  bel : Below w2.heap.size w2 wr

theorem MergeR.stepA {w2 wr wc w3 : World} {n i k : Nat} {A B O : List E5} {x : E5} {o : Obj} (h : MergeR w2 wr n A B i k O) (hb : Below wr.heap.size wr wc) (hi : i < A.length) (hx : gt A i = x)
    (hc : ¬ k < B.length ∨ k < B.length ∧ less (gt B k) (gt A i) = false)
    (hown : w3.ownsRow w2.heap.size 29 5 (.slice (some ⟨w2.heap.size, 0, none⟩) (O.length + 1) n) (O.length + 1) (flat O ++ cells5 x)) (hg : (wc.alloc o).grownBy w3 (some w2.heap.size)) :
    MergeR w2 w3 n A B (i + 1) k (O ++ [x]) := by
  have hs := h.bel.size
  have hs2 := hb.size
  refine ⟨by simp [h.len]; omega, ?_, by rw [flat_append, flat_one]; simpa using hown, ?_⟩
  · rw [← h.eq, merge_takeA hi hc, hx]; simp
  · have hb2 : Below w2.heap.size w2 wc := h.bel.trans (hb.mono hs)
    exact (hb2.alloc (by omega) _).grown hg (by simp; omega) (by simp)
theorem MergeR.stepB {w2 wr wc w3 : World} {n i k : Nat} {A B O : List E5} {x : E5} {o : Obj} (h : MergeR w2 wr n A B i k O) (hb : Below wr.heap.size wr wc) (hk : k < B.length) (hx : gt B k = x)
    (hc : ¬ i < A.length ∨ i < A.length ∧ less (gt B k) (gt A i) = true)
    (hown : w3.ownsRow w2.heap.size 29 5 (.slice (some ⟨w2.heap.size, 0, none⟩) (O.length + 1) n) (O.length + 1) (flat O ++ cells5 x)) (hg : (wc.alloc o).grownBy w3 (some w2.heap.size)) :
    MergeR w2 w3 n A B i (k + 1) (O ++ [x]) := by
  have hs := h.bel.size
  have hs2 := hb.size
  refine ⟨by simp [h.len]; omega, ?_, by rw [flat_append, flat_one]; simpa using hown, ?_⟩
  · rw [← h.eq, merge_takeB hk hc, hx]; simp
  · have hb2 : Below w2.heap.size w2 wc := h.bel.trans (hb.mono hs)
    exact (hb2.alloc (by omega) _).grown hg (by simp; omega) (by simp)
theorem MergeR.start {w2 w3 : World} {n : Nat} {A B : List E5} (hown : w3.ownsRow w2.heap.size 29 5 (.slice (some ⟨w2.heap.size, 0, none⟩) 0 n) 0 []) (hg : w2.grownBy w3 none) : MergeR w2 w3 n A B 0 0 [] :=
  ⟨rfl, by simp, by simpa [flat] using hown, (Below.refl _ _).grown hg (Nat.le_refl _) (by simp)⟩
theorem MergeR.done {w w2 wr : World} {n g1 c1 g2 c2 m : Nat} {A B O l : List E5} (h : MergeR w2 wr n A B A.length B.length O) (w1 : World) (hS1 : SortP w w1 g1 c1 (l.take m) A) (hS2 : SortP w1 w2 g2 c2 (l.drop m) B) :
    SortP w wr w2.heap.size n l O := by
  have e : O = A.merge B le5 := by have := h.eq; simpa using this
  refine ⟨ownsRow_zero' h.own, ?_, ?_, ?_⟩
  · rw [e]; exact merge_perm hS1.perm hS2.perm
  · rw [e]; exact merge_sorted hS1.sorted hS2.sorted
  · exact (hS1.bel.trans (hS2.bel.mono hS1.bel.size)).trans (h.bel.mono (Nat.le_trans hS1.bel.size hS2.bel.size))

set_option maxRecDepth 100000 in
set_option maxHeartbeats 1000000 in
theorem sort_big (n : Nat) (hn : 2 ≤ n) (hn2 : n ≤ 131072) (ih : ∀ m, m < n → SortOk m) : SortOk n := by
  intro a c l w hl hc hE
  have IH : Hid (∀ m, m < n → SortOk m) := ih
  rcases hE with h0 | ⟨b, o, rfl, hA⟩
  · rw [h0] at hl; simp at hl; omega
  obtain ⟨mid, hmid⟩ : ∃ mid, mid = n / 2 := ⟨_, rfl⟩
  have HM : Hid (mid = n / 2 ∧ l.length = n) := ⟨hmid, hl⟩
  have hd14 : decide ((n : Int) ≤ 1) = false := decide_eq_false (by omega)
  have hm1 : mid < n := by omega
  have hm2 : 1 ≤ mid := by omega
  have hq : ((n : Int) / 2) = (mid : Int) := by omega
  have hcn : n ≤ c := by omega
  clear ih hl hc hmid
  go_enter Try.func41, Try.ntmps41
  go_wp2_with fail
  refine (IH.out mid hm1 _ c (l.take mid) w (by rw [List.length_take, HM.out.2]; omega) (by rw [List.length_take, HM.out.2]; omega) (.inr ⟨b, o, rfl, hA.takeE mid⟩)).mono ?_
  rintro e w1 ⟨g1, cp1, A, rfl, hS1⟩
  have hAl : A.length = mid := by rw [hS1.perm.length_eq, List.length_take, HM.out.2]; omega
  have hA1 := hA.below hS1.bel
  have hcm : ¬ c = mid := by omega
  obtain ⟨i0, hi, hz0, hz1, hz2⟩ := info_parts info29
  have HI : Hid (Try.prog.info? 29 = some i0 ∧ i0.zero = some (.agg #[.int .i64 0, .int .i64 0, .int .i64 0, .int .i64 0, .int .i64 0]) ∧ i0.size = 5 ∧ i0.bytes = 40) := ⟨hi, hz0, hz1, hz2⟩
  have HBY : Hid (i0.bytes * n ≤ 281474976710656) := show _ ≤ _ by rw [hz2]; omega
  clear hi hz0 hz1 hz2
  go_wp2_with fail
  refine (IH.out (n - mid) (by omega) _ (c - mid) (l.drop mid) w1 (by rw [List.length_drop, HM.out.2]) (by rw [List.length_drop, HM.out.2]; omega) (.inr ⟨b, o + mid * 5, rfl, hA1.dropE mid⟩)).mono ?_
  rintro e w2 ⟨g2, cp2, B, rfl, hS2⟩
  have hBl : B.length = n - mid := by rw [hS2.perm.length_eq, List.length_drop, HM.out.2]
  obtain ⟨r, hr⟩ : ∃ r, n - mid = r := ⟨_, rfl⟩
  rw [hr] at hBl ⊢
  have hr1 : mid + r ≤ n := by omega
  have hr2 : n ≤ mid + r := by omega
  have HL : Hid (A.length = mid ∧ B.length = r) := ⟨hAl, hBl⟩
  clear hr hA hA1 hcm hAl hBl IH hq hd14
  go_wp2_with (at_make; go_must (refine wpList_make_own _ rfl (.const (.int .i64 0)) (.tmp 40) 22 rfl w2.heap.size 29 i0 (.agg #[.int .i64 0, .int .i64 0, .int .i64 0, .int .i64 0, .int .i64 0]) 5 Try.underlying22 HI.out.1 HI.out.2.1 HI.out.2.2.1 .i64 .i64 (n : Int) n rfl rfl rfl HBY.out (by unfold maxLen; omega) (Nat.le_refl _) ?_); intro w3 hown3 hgrow3)
  have h0 : MergeR w2 w3 n A B 0 0 [] := MergeR.start hown3 hgrow3
  clear hown3 hgrow3
  go_loopg [9, 10, 11] (mid + r) (fun gk s9 s10 s11 wr => ∃ (i k : Nat) (O : List E5), i ≤ mid ∧ k ≤ r ∧ gk = mid + r - (i + k) ∧ s9 = .slice (some ⟨w2.heap.size, 0, none⟩) O.length n ∧ s10 = .int .i64 i ∧ s11 = .int .i64 k ∧ MergeR w2 wr n A B i k O)
  case atStart => exact ⟨0, 0, [], Nat.zero_le _, Nat.zero_le _, rfl, rfl, rfl, rfl, h0⟩
  case round =>
    obtain ⟨i, k, O, hi, hk, rfl, rfl, rfl, rfl, hM⟩ := hrel
    by_cases hdone : ¬ i < mid ∧ ¬ k < r
    · obtain ⟨d1, d2⟩ := hdone
      have e1 : decide ((i : Int) < (mid : Int)) = false := decide_eq_false (by omega)
      have e2 : decide ((k : Int) < (r : Int)) = false := decide_eq_false (by omega)
      go_wp2
      go_ret
      have hl := hM.len
      have hL := HL.out
      obtain rfl : i = A.length := by omega
      obtain rfl : k = B.length := by omega
      exact ⟨w2.heap.size, n, O, by rw [show O.length = n by omega]; rfl, hM.done w1 hS1 hS2⟩
    · have hol : O.length + 1 ≤ n := by have := hM.len; omega
      have hO1 : O.length ≤ n := by omega
      have hdz : i < mid ∨ k < r := by omega
      clear hdone
      go_upto_region 15 with fail
      go_cut [51] from 42 to 91 (fun s51 wc => s51 = .bool true ∧ wr = wc)
      case first =>
        by_cases hia : i < mid
        · have e1 : decide ((i : Int) < (mid : Int)) = true := decide_eq_true (by omega)
          have e1n : decide (i < mid) = true := decide_eq_true (by omega)
          clear hdz
          go_wp2
          go_meet
          exact ⟨rfl, rfl⟩
        · have e1 : decide ((i : Int) < (mid : Int)) = false := decide_eq_false (by omega)
          have e1n : decide (i < mid) = false := decide_eq_false (by omega)
          have e2 : decide ((k : Int) < (r : Int)) = true := decide_eq_true (by omega)
          have e2n : decide (k < r) = true := decide_eq_true (by omega)
          clear hdz
          go_wp2
          go_meet
          exact ⟨rfl, rfl⟩
      case rest =>
      obtain ⟨rfl, rfl⟩ := hcut
      go_upto_region 16 with fail
      have hSA := hS1.own.below ((hS2.bel).trans (hM.bel.mono hS2.bel.size))
      have hSB := hS2.own.below hM.bel
      have hg1w : g1 < wr.heap.size := hSA.lt
      have hg2w : g2 < wr.heap.size := hSB.lt
      go_cut [73] from 42 to 91 (fun s73 wc => ∃ tk, s73 = .bool tk ∧ Below wr.heap.size wr wc ∧ (tk = true → i < mid ∧ (¬ k < B.length ∨ k < B.length ∧ less (gt B k) (gt A i) = false)) ∧ (tk = false → k < r ∧ (¬ i < A.length ∨ i < A.length ∧ less (gt B k) (gt A i) = true)))
      case first =>
        by_cases hkr : k < r
        · have e2 : decide ((r : Int) ≤ (k : Int)) = false := decide_eq_false (by omega)
          have e2n : decide (r ≤ k) = false := decide_eq_false (by omega)
          by_cases hia : i < mid
          · have e1 : decide ((i : Int) < (mid : Int)) = true := decide_eq_true (by omega)
            have e1n : decide (i < mid) = true := decide_eq_true (by omega)
            have iz : (i : Int) < (mid : Int) := by omega
            have kz : (k : Int) < (r : Int) := by omega
            have ga := hSA.at5 (i := i) (by have := HL.out.1; omega)
            have gb := hSB.at5 (i := k) (by have := HL.out.2; omega)
            generalize hx : gt A i = x at ga
            generalize hy : gt B k = y at gb
            have HX : Hid (gt A i = x ∧ gt B k = y) := ⟨hx, hy⟩
            clear hx hy hdz
            obtain ⟨x0, x1, x2, x3, x4⟩ := ga
            obtain ⟨y0, y1, y2, y3, y4⟩ := gb
            go_region_held3 (fun w' => w'.cell? ⟨g1, i * 5, none⟩ = some (.int .i64 x.a) ∧ w'.cell? ⟨g1, i * 5 + 1, none⟩ = some (.int .i64 x.b) ∧ w'.cell? ⟨g1, i * 5 + 2, none⟩ = some (.int .i64 x.c) ∧ w'.cell? ⟨g1, i * 5 + 3, none⟩ = some (.int .i64 x.d) ∧ w'.cell? ⟨g1, i * 5 + 4, none⟩ = some (.int .i64 x.e) ∧ w'.cell? ⟨g2, k * 5, none⟩ = some (.int .i64 y.a) ∧ w'.cell? ⟨g2, k * 5 + 1, none⟩ = some (.int .i64 y.b) ∧ w'.cell? ⟨g2, k * 5 + 2, none⟩ = some (.int .i64 y.c) ∧ w'.cell? ⟨g2, k * 5 + 3, none⟩ = some (.int .i64 y.d) ∧ w'.cell? ⟨g2, k * 5 + 4, none⟩ = some (.int .i64 y.e)) (go_keep)
              ((go_at_call 46; refine (evLess_any y x _).mono ?_; rintro e w4 ⟨rfl, hb4⟩; have hr4 := bcellD hb4))
            go_wp2
            go_meet
            obtain ⟨e3, e4⟩ := HX.out
            have hL := HL.out
            refine ⟨!(less y x), rfl, (Below.refl _ _).drew.trans hb4, fun hb => ⟨hia, .inr ⟨by omega, by rw [e3, e4]; simpa using hb⟩⟩, fun hb => ⟨hkr, .inr ⟨by omega, by rw [e3, e4]; simpa using hb⟩⟩⟩
          · have e1 : decide ((i : Int) < (mid : Int)) = false := decide_eq_false (by omega)
            have e1n : decide (i < mid) = false := decide_eq_false (by omega)
            clear hdz
            go_quiet (fail)
            go_wp2
            go_meet
            have hL := HL.out
            exact ⟨false, rfl, ⟨rfl, rfl, rfl, Nat.le_refl _, fun _ _ => rfl⟩, by simp, fun _ => ⟨hkr, .inl (by omega)⟩⟩
        · have e2 : decide ((r : Int) ≤ (k : Int)) = true := decide_eq_true (by omega)
          have e2n : decide (r ≤ k) = true := decide_eq_true (by omega)
          have hia : i < mid := by omega
          clear hdz
          go_quiet (fail)
          go_wp2
          go_meet
          have hL := HL.out
          exact ⟨true, rfl, ⟨rfl, rfl, rfl, Nat.le_refl _, fun _ _ => rfl⟩, fun _ => ⟨hia, .inl (by omega)⟩, by simp⟩
      case rest =>
        obtain ⟨tk, rfl, hbc, ht, hf⟩ := hcut
        have hoc := ownsRow_below hM.own hbc
        cases tk with
        | true =>
          obtain ⟨hia, hcond⟩ := ht rfl
          have iz : (i : Int) < (mid : Int) := by omega
          have ga := (hSA.at5 (i := i) (by have := HL.out.1; omega)).below hbc
          generalize hx : gt A i = x at ga
          have HX : Hid (gt A i = x ∧ (¬ k < B.length ∨ k < B.length ∧ less (gt B k) (gt A i) = false)) := ⟨hx, hcond⟩
          clear hx hcond ht hf hdz hSA hSB
          obtain ⟨x0, x1, x2, x3, x4⟩ := ga
          go_wp2_with (at_builtin; go_must (refine wpList_append_fits _ rfl (.tmp 74) (.tmp 79) 22 rfl w2.heap.size 29 i0 5 Try.underlying22 HI.out.1 HI.out.2.2.1 w2.heap.size O.length n (flat O) rfl (hoc.alloc _) ⟨wc.heap.size, 0, none⟩ 1 1 (cells5 x) rfl rfl (World.news_of_block (heap_alloc_new _ _)) (cells5_one x) (by omega) ?_); intro w4 hown4 hgrow4)
          go_roundg (mid + r - (i + 1 + k))
          case rel => exact ⟨i + 1, k, O ++ [x], by omega, by omega, rfl, by simp, by go_num, rfl, hM.stepA hbc (by have := HL.out.1; omega) HX.out.1 HX.out.2 hown4 hgrow4⟩
          case measure => omega
        | false =>
          obtain ⟨hkr, hcond⟩ := hf rfl
          have kz : (k : Int) < (r : Int) := by omega
          have gb := (hSB.at5 (i := k) (by have := HL.out.2; omega)).below hbc
          generalize hx : gt B k = x at gb
          have HX : Hid (gt B k = x ∧ (¬ i < A.length ∨ i < A.length ∧ less (gt B k) (gt A i) = true)) := ⟨hx, hcond⟩
          clear hx hcond ht hf hdz hSA hSB
          obtain ⟨x0, x1, x2, x3, x4⟩ := gb
          go_wp2_with (at_builtin; go_must (refine wpList_append_fits _ rfl (.tmp 83) (.tmp 88) 22 rfl w2.heap.size 29 i0 5 Try.underlying22 HI.out.1 HI.out.2.2.1 w2.heap.size O.length n (flat O) rfl (hoc.alloc _) ⟨wc.heap.size, 0, none⟩ 1 1 (cells5 x) rfl rfl (World.news_of_block (heap_alloc_new _ _)) (cells5_one x) (by omega) ?_); intro w4 hown4 hgrow4)
          go_roundg (mid + r - (i + (k + 1)))
          case rel => exact ⟨i, k + 1, O ++ [x], by omega, by omega, rfl, by simp, rfl, by go_num, hM.stepB hbc (by have := HL.out.2; omega) HX.out.1 HX.out.2 hown4 hgrow4⟩
          case measure => omega

theorem sorted_short {l : List E5} (h : l.length ≤ 1) : Sorted5 l := by
  match l, h with
  | [], _ => exact List.Pairwise.nil
  | [x], _ => exact List.pairwise_singleton _ _

theorem sort_ok (n : Nat) (hn : n ≤ 131072) : SortOk n := by
  induction n using Nat.strongRecOn with
  | ind n ih =>
    by_cases h : 2 ≤ n
    · exact sort_big n h hn (fun m hm => ih m hm (by omega))
    · intro a c l w hl hc hE
      subst hl
      refine (sort_small a c l w (by omega) hE).mono ?_
      rintro e w' ⟨rfl, hF⟩
      have ho := hF.own (Nat.le_refl _)
      rw [List.take_length] at ho
      exact ⟨_, _, l, rfl, ho, List.Perm.refl _, sorted_short (by omega), hF.2⟩

theorem sort_any (a : Option Addr) (c : Nat) (l : List E5) (w : World) (hn : l.length ≤ 131072) (hc : l.length ≤ c) (hE : EvsIn w a l) :
    Calls Try.prog 41 #[.slice a l.length c] w fun e w' => ∃ g cap S, e = .returned (.slice (some ⟨g, 0, none⟩) l.length cap) ∧ SortP w w' g cap l S :=
  sort_ok l.length hn a c l w rfl hc hE
end Go.Proofs.Qxb6001094a

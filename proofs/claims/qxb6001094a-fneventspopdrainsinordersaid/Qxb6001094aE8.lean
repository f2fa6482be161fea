import Derived.Test.Qxb6001094aE7
namespace Go.Proofs.Qxb6001094a
open Go.RowKit Go.Deep

theorem popP_one {w wr : World} {Q g cap : Nat} {l : List E5} (hl : l.length = 1) (hQ : QAt w Q g cap l) (hb : Below w.heap.size w wr) :
    PopP w (put5 (wr.setCell ⟨Q, 0, none⟩ (.slice (some ⟨g, 0, none⟩) 0 cap)) w.heap.size 0 (gt l 0)) Q g cap l [] := by
  have hq := lt_of_block hQ.q
  have hg := hQ.own.lt
  obtain ⟨curg, hbg⟩ := hQ.own.block
  have hQg : Q ≠ g := by intro e; rw [← e, hQ.q] at hbg; simp at hbg
  refine ⟨by simpa using hl.symm, ?_, fun _ j h1 h2 => by simp at h2, ?_, ?_, ?_⟩
  · match l, hl with
    | [x], _ => exact List.Perm.refl _
  · have h0 := (hQ.own.take 0 (by omega)).below hb
    rw [List.take_zero] at h0
    refine h0.of_block ?_
    rw [put5_other (by omega), Below.heap_setCell _ _ _ _ (by simpa using Ne.symm hQg)]
  · rw [put5_other (by omega), blk_setCell' ((hb.block _ hq).trans hQ.q)]; simp
  · exact ((Kept2.of_below Q g hb).trans (setCell_kept _ Q 0 g _)).put_new (Nat.le_refl _)

set_option maxRecDepth 100000 in
set_option maxHeartbeats 1000000 in
theorem pop_one (Q g cap : Nat) (l : List E5) (w : World) (hl : l.length = 1) (hQ : QAt w Q g cap l) :
    Calls Try.prog 40 #[.pointer (some ⟨Q, 0, none⟩)] w fun e w' => e = .returned (gt l 0).val ∧ ∃ R, PopP w w' Q g cap l R := by
  have q0 := cell_of_one hQ.q
  have hql : Q < w.heap.size := lt_of_block hQ.q
  have hgl : g < w.heap.size := hQ.own.lt
  have hx := hQ.own.at5 (i := 0) (by omega)
  have hcap : l.length ≤ cap := by
    obtain ⟨_, ⟨h1, _⟩ | ⟨g1, c1, cur, h1, _, _, h4, _⟩⟩ := hQ.own
    · cases h1
    · cases h1; exact h4
  obtain ⟨x0, x1, x2, x3, x4⟩ := hx
  simp only [Nat.zero_mul, Nat.zero_add] at x0 x1 x2 x3 x4
  rw [hl] at q0 hcap
  obtain ⟨f, hf⟩ : ∃ f, gt l 0 = f := ⟨_, rfl⟩
  have hst := popP_one hl hQ (W3_below w f f)
  have hqW : (W3 w f f).cell? ⟨Q, 0, none⟩ = some (.slice (some ⟨g, 0, none⟩) 1 cap) := ((W3_below w f f).cell (p := ⟨Q, 0, none⟩) hql).trans q0
  have hqf : (W3 w f f).frozen? ⟨Q, 0, none⟩ = false := ((W3_below w f f).frozen (p := ⟨Q, 0, none⟩) hql).trans (free_of_one hQ.q)
  have hB0 : Box5 ((W3 w f f).setCell ⟨Q, 0, none⟩ (.slice (some ⟨g, 0, none⟩) 0 cap)) w.heap.size 32 e0 := by
    unfold Box5
    rw [Below.heap_setCell _ _ _ _ (by simp; omega)]
    exact (W3_box w f f).1
  have hB1 : Box5 ((W3 w f f).setCell ⟨Q, 0, none⟩ (.slice (some ⟨g, 0, none⟩) 0 cap)) (w.heap.size + 1) 32 f := by
    unfold Box5
    rw [Below.heap_setCell _ _ _ _ (by simp; omega)]
    exact (W3_box w f f).2.1
  rw [hf] at hst x0 x1 x2 x3 x4 ⊢
  have HH : Hid (l.length = 1 ∧ gt l 0 = f) := ⟨hl, hf⟩
  have HS : Hid (PopP _ _ _ _ _ _ _) := hst
  have HB : Hid (Box5 _ _ _ _) := put5_box (x := f) hB0
  have HB0 : Hid (Box5 _ _ _ _) := hB0
  have HB1 : Hid (Box5 _ _ _ _) := hB1
  clear hl hf hst hQ hB0 hB1
  go_enter Try.func40, Try.ntmps40
  go_upto_region 16 with fail
  obtain ⟨w3, hw3⟩ : ∃ w3, W3 w f f = w3 := ⟨_, rfl⟩
  rw [hw3] at hqW hqf HS HB HB0 HB1
  unfold W3 at hw3
  rw [hw3]
  clear hw3
  obtain ⟨b0, b1, b2, b3, b4, bf0, bf1, bf2, bf3, bf4⟩ := HB0.out.cells
  obtain ⟨a0, a1, a2, a3, a4, -⟩ := HB1.out.cells
  have hQw : Q ≠ w.heap.size := by omega
  go_wp2
  obtain ⟨z0, z1, z2, z3, z4, -⟩ := HB.out.cells
  simp only [put5, Nat.zero_add] at z0 z1 z2 z3 z4
  exact bodyPost_ret (v := f.val) (by simp [results, Try.results40, go_sem, E5.val, z0, z1, z2, z3, z4]) rfl ⟨rfl, _, HS.out⟩

theorem pop_any (Q g cap : Nat) (l : List E5) (w : World) (hn : l.length ≤ 131072) (hl : 1 ≤ l.length) (hQ : QAt w Q g cap l) :
    Calls Try.prog 40 #[.pointer (some ⟨Q, 0, none⟩)] w fun e w' => e = .returned (gt l 0).val ∧ ∃ R, PopP w w' Q g cap l R := by
  by_cases h : l.length = 1
  · exact pop_one Q g cap l w h hQ
  · exact pop_many Q g cap l w hn (by omega) hQ

theorem QAt.below {w w' : World} {Q g cap : Nat} {l : List E5} (h : QAt w Q g cap l) (hb : Below w.heap.size w w') : QAt w' Q g cap l :=
  ⟨(hb.block _ (lt_of_block h.q)).trans h.q, h.own.below hb⟩

theorem PopP.shift {w w0 w' : World} {Q g cap : Nat} {l R : List E5} {x : E5} (h : PopP w0 w' Q g cap l R) (hQ : QAt w Q g cap l) (hb : Below w.heap.size w w0) (hs : w.heap.size < w0.heap.size) (hbox : Box5 w0 w.heap.size 32 e0) :
    Box5 w' w.heap.size 32 e0 ∧ PopP w (put5 w' w.heap.size 0 x) Q g cap l R := by
  have hq := lt_of_block hQ.q
  have hg := hQ.own.lt
  refine ⟨(h.kept.block _ hs (by omega) (by omega)).trans hbox, h.len, h.perm, h.heap, h.own.of_block (put5_other (by omega)), (put5_other (by omega)).trans h.q, ?_⟩
  exact ((Kept2.of_below Q g hb).trans h.kept).put_new (Nat.le_refl _)

set_option maxHeartbeats 400000 in
theorem zzPop_any (Q g cap : Nat) (l : List E5) (w : World) (hn : l.length ≤ 131072) (hl : 1 ≤ l.length) (hQ : QAt w Q g cap l) :
    Calls Try.prog 16 #[.pointer (some ⟨Q, 0, none⟩)] w fun e w' => e = .returned (gt l 0).val ∧ ∃ R, PopP w w' Q g cap l R := by
  have hb : Below w.heap.size w (w.alloc (.cells #[.int .i64 0, .int .i64 0, .int .i64 0, .int .i64 0, .int .i64 0] 32)) := (Below.refl _ _).alloc (Nat.le_refl _) _
  have hbox : Box5 (w.alloc (.cells #[.int .i64 0, .int .i64 0, .int .i64 0, .int .i64 0, .int .i64 0] 32)) w.heap.size 32 e0 := heap_alloc_new _ _
  have HQ : Hid (QAt w Q g cap l) := hQ
  have HB : Hid (Box5 _ _ _ _) := hbox
  obtain ⟨f, hf⟩ : ∃ f, gt l 0 = f := ⟨_, rfl⟩
  rw [hf]
  have HF : Hid (gt l 0 = f) := hf
  clear hQ hbox hf
  go_enter Try.func16, Try.ntmps16
  go_wp2_with fail
  refine (pop_any Q g cap l _ hn hl (HQ.out.below hb)).mono ?_
  rintro e w1 ⟨rfl, R, hP⟩
  rw [HF.out]
  have hsh := hP.shift (x := f) HQ.out hb (by simp) HB.out
  have HP : Hid (PopP _ _ _ _ _ _ _) := hsh.2
  have HZ : Hid (Box5 _ _ _ _) := put5_box (x := f) hsh.1
  obtain ⟨b0, b1, b2, b3, b4, bf0, bf1, bf2, bf3, bf4⟩ := hsh.1.cells
  clear hsh hP hb
  unfold E5.val
  go_wp2
  obtain ⟨z0, z1, z2, z3, z4, -⟩ := HZ.out.cells
  simp only [put5, Nat.zero_add] at z0 z1 z2 z3 z4
  exact bodyPost_ret (v := f.val) (by simp [results, Try.results16, go_sem, E5.val, z0, z1, z2, z3, z4]) rfl ⟨rfl, _, HP.out⟩
end Go.Proofs.Qxb6001094a

import Derived.Test.Qxb6001416aS6b
namespace Go.Proofs.Qxb6001416a
open Go.RowKit Go.Deep

set_option maxRecDepth 100000 in
set_option maxHeartbeats 1000000 in
theorem zzpos_any (file : ByteArray) (a : Option Addr) (n st : Nat) (line : Int) (Z : Nat → Nat) (w : World) (hn : n ≤ 1048576) (hl : lineAt line 0 = line) (hB : BytesIn w a n Z) :
    Calls Try.prog 17 #[.string file, .slice a n n, .int .i64 (st : Int), .int .i64 line] w fun e w' => ∃ k, PosP n st k Z ∧ e = .returned (.tuple #[.agg #[.string file, .int .i64 (lineAt line (nls Z st k))], .int .i64 ((st + k : Nat) : Int), .int .i64 (lineAt line (nls Z st k))]) ∧ Below w.heap.size w w' := by
  have HB : Hid _ := hB
  have HL : Hid _ := hl
  clear hB hl
  go_enter Try.func17, Try.ntmps17
  go_wp2_with fail
  have hA : ((w.alloc (.cells #[.string ⟨#[]⟩, .int .i64 0] 33)).alloc (.cells #[.string file, .slice a n n, .int .i64 (st : Int), .int .i64 line] 44)).heap[w.heap.size]? = some (.cells #[.string ⟨#[]⟩, .int .i64 0] 33) := by
    rw [Below.heap_alloc _ _ _ (by simp), heap_alloc_new]
  have hR : readerAt ((w.alloc (.cells #[.string ⟨#[]⟩, .int .i64 0] 33)).alloc (.cells #[.string file, .slice a n n, .int .i64 (st : Int), .int .i64 line] 44)) (w.heap.size + 1) file a n st line := by
    have := heap_alloc_new (w.alloc (.cells #[.string ⟨#[]⟩, .int .i64 0] 33)) (.cells #[.string file, .slice a n n, .int .i64 (st : Int), .int .i64 line] 44)
    simpa [readerAt] using this
  have hbel : Below w.heap.size w ((w.alloc (.cells #[.string ⟨#[]⟩, .int .i64 0] 33)).alloc (.cells #[.string file, .slice a n n, .int .i64 (st : Int), .int .i64 line] 44)) := ((Below.refl _ _).alloc (Nat.le_refl _) _).alloc (by simp) _
  generalize (w.alloc (.cells #[.string ⟨#[]⟩, .int .i64 0] 33)).alloc (.cells #[.string file, .slice a n n, .int .i64 (st : Int), .int .i64 line] 44) = w1 at hA hR hbel ⊢
  refine (pos_any (w.heap.size + 1) file a n st line Z w1 hn hR HL.out (by
    rcases HB.out with h | ⟨g, ha, hg, hc⟩
    · exact .inl h
    · exact .inr ⟨g, ha, by omega, fun i hi => (hbel.cell (p := ⟨g, i, none⟩) hg).trans (hc i hi)⟩)).mono ?_
  rintro e w2 ⟨k, hP, rfl, hR2, hb2⟩
  have HP : Hid _ := hP
  have hA2 := (hb2.block _ (Nat.lt_succ_self w.heap.size)).trans hA
  have hbb := hbel.trans (hb2.mono (Nat.le_succ _))
  clear hA hR hbel hb2 HB HL hP
  obtain ⟨p, hp⟩ : ∃ p, st + k = p := ⟨_, rfl⟩
  rw [hp] at hR2
  obtain ⟨ln, hln⟩ : ∃ ln, lineAt line (nls Z st k) = ln := ⟨_, rfl⟩
  rw [hln] at hR2 ⊢
  have HK : Hid (st + k = p ∧ lineAt line (nls Z st k) = ln) := ⟨hp, hln⟩
  clear hp hln
  unfold readerAt at hR2
  go_upto_region 3 with fail
  have hb3 : Below w2.heap.size w2 (w2.alloc (.cells #[.string file, .int .i64 ln] 33)) := (Below.refl _ _).alloc (Nat.le_refl _) _
  have hX := heap_alloc_new w2 (.cells #[.string file, .int .i64 ln] 33)
  have hA3 := (hb3.block _ (lt_of_block hA2)).trans hA2
  have hR3 := (hb3.block _ (lt_of_block hR2)).trans hR2
  have hbb3 := hbb.trans (hb3.mono hbb.size)
  have hne : w.heap.size ≠ w2.heap.size := Nat.ne_of_lt (lt_of_block hA2)
  generalize w2.alloc (.cells #[.string file, .int .i64 ln] 33) = w3 at hb3 hX hA3 hR3 hbb3 ⊢
  generalize w2.heap.size = X at hX hne ⊢
  clear hb3 hA2 hR2 hbb
  have c2 := cell_blk6 (o := 2) hR3 rfl
  have c3 := cell_blk6 (o := 3) hR3 rfl
  have x0 := cell_blk6 (o := 0) hX rfl
  have x1 := cell_blk6 (o := 1) hX rfl
  have a0 := cell_blk6 (o := 0) hA3 rfl
  have a1 := cell_blk6 (o := 1) hA3 rfl
  have f0 := free_blk6 hA3 0
  have f1 := free_blk6 hA3 1
  have HA : Hid _ := hA3
  have HBB : Hid _ := hbb3
  clear hA3 hR3 hX hbb3
  go_region
  go_wp2
  have hz := blk_setCell6 (o := 1) (blk_setCell6 (o := 0) HA.out (.string file)) (.int .i64 ln)
  have y0 : (((w3.setCell ⟨w.heap.size, 0, none⟩ (.string file)).setCell ⟨w.heap.size, 1, none⟩ (.int .i64 ln)).drew).cell? ⟨w.heap.size, 0, none⟩ = some (.string file) := cell_blk6 hz (by simp)
  have y1 : (((w3.setCell ⟨w.heap.size, 0, none⟩ (.string file)).setCell ⟨w.heap.size, 1, none⟩ (.int .i64 ln)).drew).cell? ⟨w.heap.size, 1, none⟩ = some (.int .i64 ln) := cell_blk6 hz (by simp)
  have hbe : Below w.heap.size w (((w3.setCell ⟨w.heap.size, 0, none⟩ (.string file)).setCell ⟨w.heap.size, 1, none⟩ (.int .i64 ln)).drew) := ((HBB.out.setCell (Nat.le_refl _) _).setCell (Nat.le_refl _) _).drew
  refine bodyPost_ret (v := .tuple #[.agg #[.string file, .int .i64 ln], .int .i64 (p : Int), .int .i64 ln]) (by simp [results, Try.results17, go_sem, y0, y1]) rfl ⟨k, HP.out, by rw [HK.out.1, HK.out.2], hbe⟩
end Go.Proofs.Qxb6001416a

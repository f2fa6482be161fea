import Derived.Test.Qxb6001094aE3
namespace Go.Proofs.Qxb6001094a
open Go.RowKit Go.Deep

theorem take_snoc5 (l : List E5) (k : Nat) (h : k < l.length) : l.take (k + 1) = l.take k ++ [gt l k] := by
  rw [List.take_succ_eq_append_getElem h, gt_of_lt h]

theorem ownsRow_below {w w' : World} {base e size n : Nat} {v : Value} {xs : List Value} (h : w.ownsRow base e size v n xs) (hb : Below w.heap.size w w') : w'.ownsRow base e size v n xs :=
  ownsRow_of_heap h (fun k _ hk => hb.block k (lt_of_block hk))
theorem cells5_one (x : E5) : ∀ u ∈ cells5 x, u.oneCell' = true := by
  intro u hu
  simp [cells5] at hu
  rcases hu with rfl | rfl | rfl | rfl | rfl <;> rfl
theorem flat_snoc {l : List E5} {k : Nat} {x : E5} (h : l.take (k + 1) = l.take k ++ [x]) : flat (l.take k) ++ cells5 x = flat (l.take (k + 1)) := by
  rw [h, flat_append, flat_one]

/-- A row of ours, filled from the front: the first k of l. -/
def FillR (w wr : World) (t : TypeId) (n k : Nat) (l : List E5) : Prop :=
  wr.ownsRow w.heap.size t 5 (.slice (some ⟨w.heap.size, 0, none⟩) k n) k (flat (l.take k)) ∧ Below w.heap.size w wr

set_option maxRecDepth 100000 in
set_option maxHeartbeats 1000000 in
theorem toQueue_any (a : Option Addr) (c : Nat) (l : List E5) (w : World) (hn : l.length ≤ 131072) (hE : EvsIn w a l) :
    Calls Try.prog 14 #[.slice a l.length c] w fun e w' => e = .returned (.slice (some ⟨w.heap.size, 0, none⟩) l.length l.length) ∧ FillR w w' 32 l.length l.length l := by
  have HE : Hid (EvsIn w a l) := hE
  obtain ⟨i0, hi, hz0, hz1, hz2⟩ := info_parts info32
  have HI : Hid (Try.prog.info? 32 = some i0 ∧ i0.zero = some (.agg #[.int .i64 0, .int .i64 0, .int .i64 0, .int .i64 0, .int .i64 0]) ∧ i0.size = 5 ∧ i0.bytes = 40) := ⟨hi, hz0, hz1, hz2⟩
  have hby : i0.bytes * l.length ≤ 281474976710656 := by rw [hz2]; omega
  have HBY : Hid (i0.bytes * l.length ≤ 281474976710656) := hby
  clear hE hi hz0 hz1 hz2 hby
  go_enter Try.func14, Try.ntmps14
  go_wp2_with (at_make; go_must (refine wpList_make_own _ rfl (.const (.int .i64 0)) (.tmp 7) 26 rfl w.heap.size 32 i0 (.agg #[.int .i64 0, .int .i64 0, .int .i64 0, .int .i64 0, .int .i64 0]) 5 Try.underlying26 HI.out.1 HI.out.2.1 HI.out.2.2.1 .i64 .i64 (l.length : Int) l.length rfl rfl rfl HBY.out (by unfold maxLen; omega) (Nat.le_refl _) ?_); intro w1 hown1 hgrow1)
  have h0 : FillR w w1 32 l.length 0 l := ⟨by simpa [flat] using hown1, (Below.refl _ _).grown hgrow1 (Nat.le_refl _) (by simp)⟩
  clear hown1 hgrow1
  go_loopg [3, 5, 11] l.length (fun gk q _ i wr => ∃ k : Nat, k ≤ l.length ∧ gk = l.length - k ∧ q = .slice (some ⟨w.heap.size, 0, none⟩) k l.length ∧ i = .int .i64 k ∧ FillR w wr 32 l.length k l)
  case atStart => exact ⟨0, Nat.zero_le _, rfl, rfl, rfl, h0⟩
  case round =>
    obtain ⟨k, hk, rfl, rfl, rfl, hF⟩ := hrel
    by_cases hlt : k < l.length
    · rcases HE.out with h0 | ⟨b, o, rfl, hA⟩
      · rw [h0] at hlt; simp at hlt
      obtain ⟨x1, x2, x3, x4, x5⟩ := (hA k hlt).below hF.2
      have hts := take_snoc5 l k hlt
      generalize gt l k = x at x1 x2 x3 x4 x5 hts
      have HT : Hid (l.take (k + 1) = l.take k ++ [x]) := hts
      clear hts HE hA
      go_wp2_with fail
      refine (makeEvent_any x _).mono ?_
      rintro e w2 ⟨rfl, hb2⟩
      have hb3 : Below wr.heap.size wr w2 := ((Below.refl _ _).alloc (Nat.le_refl _) _).trans (hb2.mono (by simp))
      have hown2 := ownsRow_below hF.1 hb3
      have hbw := hF.2.trans (hb3.mono hF.2.size)
      clear hb2 hb3 hF x1 x2 x3 x4 x5
      unfold E5.val
      go_wp2_with (at_builtin; go_must (refine wpList_append_fits _ rfl (.tmp 15) (.tmp 27) 26 rfl w.heap.size 32 i0 5 Try.underlying26 HI.out.1 HI.out.2.2.1 w.heap.size k l.length (flat (l.take k)) rfl (hown2.alloc _) ⟨w2.heap.size, 0, none⟩ 1 1 (cells5 x) rfl rfl (World.news_of_block (heap_alloc_new _ _)) (cells5_one x) (by omega) ?_); intro w3 hown3 hgrow3)
      go_roundg (l.length - (k + 1))
      case rel =>
        refine ⟨k + 1, by omega, rfl, by rfl, by go_num, ?_, ?_⟩
        · rw [← flat_snoc HT.out]; exact hown3
        · exact ((hbw.alloc hbw.size _).grown hgrow3 (by have := hbw.size; simp; omega) (by simp))
      case measure => omega
    · obtain rfl : k = l.length := by omega
      go_wp2
      go_ret
      exact ⟨rfl, hF⟩
end Go.Proofs.Qxb6001094a

import Derived.Test.Qxb6001094aE9
namespace Go.Proofs.Qxb6001094a
open Go.RowKit Go.Deep

set_option maxRecDepth 100000 in
set_option maxHeartbeats 1000000 in
theorem same_perm (a b : Option Addr) (c d : Nat) (l m : List E5) (w : World) (hn : l.length ≤ 131072) (hc : l.length ≤ c) (hd : m.length ≤ d) (hA : EvsIn w a l) (hB : EvsIn w b m) (hp : l.Perm m) :
    Calls Try.prog 18 #[.slice a l.length c, .slice b m.length d] w fun e w' => e = .returned (.bool true) ∧ Below w.heap.size w w' := by
  have hlm := hp.length_eq
  have hn' : m.length ≤ 131072 := by omega
  obtain ⟨n, hN⟩ : ∃ n, l.length = n := ⟨_, rfl⟩
  have hM : m.length = n := by omega
  have S1 := sort_any a c l w hn hc hA
  have S2 : ∀ w', Below w.heap.size w w' → _ := fun w' hb => sort_any b d m w' hn' hd (hB.below hb)
  rw [hN] at S1 ⊢
  rw [hM] at S2 ⊢
  have n0 : ((n : Int) != (n : Int)) = false := by simp
  have HN : Hid (l.length = n ∧ m.length = n) := ⟨hN, hM⟩
  have H1 : Hid (Calls _ _ _ _ _) := S1
  have H2 : Hid (∀ w', Below w.heap.size w w' → Calls Try.prog 41 #[.slice b n d] w' fun e w'' => ∃ g cap S, e = .returned (.slice (some ⟨g, 0, none⟩) n cap) ∧ SortP w' w'' g cap m S) := S2
  have hnn : n ≤ 131072 := by omega
  clear hN hM hlm S1 S2 hn hn' hc hd hA hB
  go_enter Try.func18, Try.ntmps18
  go_wp2_with fail
  refine H1.out.mono ?_
  rintro e w1 ⟨g1, c1, X, rfl, hX⟩
  go_wp2_with fail
  refine (H2.out w1 hX.bel).mono ?_
  rintro e w2 ⟨g2, c2, Y, rfl, hY⟩
  have hXY : X = Y := sorted_unique hX.sorted hY.sorted (hX.perm.trans (hp.trans hY.perm.symm))
  subst hXY
  have hXl : X.length = n := by rw [hX.perm.length_eq]; exact HN.out.1
  have hO1 := hX.own.below hY.bel
  have hO2 := hY.own
  have hbl := hX.bel.trans (hY.bel.mono hX.bel.size)
  clear H1 H2 hX hY
  go_wp2
  go_loopg [7] n (fun gk s7 wr => ∃ i : Nat, i ≤ n ∧ gk = n - i ∧ s7 = .int .i64 i ∧ Below w2.heap.size w2 wr)
  case atStart => exact ⟨0, Nat.zero_le _, rfl, rfl, Below.refl _ _⟩
  case round =>
    obtain ⟨i, hi, rfl, rfl, hb⟩ := hrel
    by_cases hlt : i < n
    · have iz : (i : Int) < (n : Int) := by omega
      obtain ⟨x0, x1, x2, x3, x4⟩ := (hO1.at5 (i := i) (by omega)).below hb
      obtain ⟨y0, y1, y2, y3, y4⟩ := (hO2.at5 (i := i) (by omega)).below hb
      generalize gt X i = x at *
      go_wp2
      go_quiet (fail)
      go_wp2
      go_roundg (n - (i + 1))
      case rel => exact ⟨i + 1, by omega, rfl, by go_num, hb.trans ⟨rfl, rfl, rfl, Nat.le_refl _, fun _ _ => rfl⟩⟩
      case measure => omega
    · go_wp2
      go_ret
      exact ⟨rfl, hbl.trans (hb.mono hbl.size)⟩
end Go.Proofs.Qxb6001094a

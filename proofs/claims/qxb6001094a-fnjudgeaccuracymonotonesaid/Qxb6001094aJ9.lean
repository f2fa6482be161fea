import Derived.Test.Qxb6001094aL5
namespace Go.Proofs.Qxb6001094a
open Go.RowKit Go.Deep

theorem Drawn.more {w w' : World} (h : Drawn w w') (m : Nat) : Drawn w (w'.drewN m) := by
  obtain ⟨k, rfl⟩ := h
  exact ⟨k + m, World.drewN_drewN _ _ _⟩
theorem Drawn.trans {w w' w'' : World} (h : Drawn w w') (h' : Drawn w' w'') : Drawn w w'' := by
  obtain ⟨k, rfl⟩ := h'
  exact h.more k

set_option maxRecDepth 100000 in
set_option maxHeartbeats 1000000 in
theorem same_any (j : Jd) (w : World) (g1 c1 g2 c2 : Nat) (P1 P2 : Nat → Option Nat) (hn : j.n ≤ 131072) (h1 : Dets j w g1 c1 P1) (h2 : Dets j w g2 c2 P2) :
    Calls Try.prog 29 #[.slice (some ⟨g1, 0, none⟩) (j.dl j.n).length c1, .slice (some ⟨g2, 0, none⟩) (j.dl j.n).length c2] w fun e w' => e = .returned (.bool true) ∧ Drawn w w' := by
  have hle := j.dl_length_le j.n
  have n0 : (((j.dl j.n).length : Int) != ((j.dl j.n).length : Int)) = false := by simp
  go_enter Try.func29, Try.ntmps29
  go_wp2
  go_loopg [5] (j.dl j.n).length (fun gk i wr => ∃ t : Nat, t ≤ (j.dl j.n).length ∧ gk = (j.dl j.n).length - t ∧ i = .int .i64 (t : Int) ∧ Drawn w wr)
  case atStart => exact ⟨0, Nat.zero_le _, rfl, rfl, 0, rfl⟩
  case round =>
    obtain ⟨t, ht, rfl, rfl, hd⟩ := hrel
    by_cases htl : t < (j.dl j.n).length
    · have hD1 := h1.below (hd.below _)
      have hD2 := h2.below (hd.below _)
      obtain ⟨f0, f1, f2⟩ := hD1.at t htl
      obtain ⟨k0, k1, k2⟩ := hD2.at t htl
      have hp1 := hD1.ptr _ (List.getElem_mem htl)
      have hp2 := hD2.ptr _ (List.getElem_mem htl)
      generalize (j.dl j.n)[t] = q at f0 f1 f2 k0 k1 k2 hp1 hp2
      have htz : (t : Int) < ((j.dl j.n).length : Int) := by omega
      have n1 : (((q : Int) + 1) != ((q : Int) + 1)) = false := by simp
      have n2 : (j.Cr q != j.Cr q) = false := by simp
      cases hdet : j.det q with
      | none =>
        rw [hdet] at hp1 hp2
        rw [show P1 q = none from hp1, show ptrV none = .pointer none from rfl] at f2
        rw [show P2 q = none from hp2, show ptrV none = .pointer none from rfl] at k2
        clear hdet hp1 hp2
        go_wp2
        go_quiet (fail)
        go_wp2
        go_quiet (fail)
        go_wp2
        go_quiet (fail)
        go_wp2
        go_roundg ((j.dl j.n).length - (t + 1))
        case rel => exact ⟨t + 1, by omega, rfl, by go_num, hd.more _⟩
        case measure => omega
      | some v =>
        rw [hdet] at hp1 hp2
        obtain ⟨gp1, hg1, hc1⟩ := hp1
        obtain ⟨gp2, hg2, hc2⟩ := hp2
        rw [hg1, show ptrV (some gp1) = .pointer (some ⟨gp1, 0, none⟩) from rfl] at f2
        rw [hg2, show ptrV (some gp2) = .pointer (some ⟨gp2, 0, none⟩) from rfl] at k2
        have q1 := cell_of_one hc1
        have q2 := cell_of_one hc2
        have n3 : (v != v) = false := by simp
        clear hdet hg1 hg2 hc1 hc2
        go_wp2
        go_quiet (fail)
        go_wp2
        go_quiet (fail)
        go_wp2
        go_quiet (fail)
        go_wp2
        go_roundg ((j.dl j.n).length - (t + 1))
        case rel => exact ⟨t + 1, by omega, rfl, by go_num, hd.more _⟩
        case measure => omega
    · go_wp2
      go_ret
      exact ⟨rfl, hd⟩
end Go.Proofs.Qxb6001094a

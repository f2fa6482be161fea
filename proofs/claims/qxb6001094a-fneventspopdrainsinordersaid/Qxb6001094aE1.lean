import Derived.Test.Qxb6001094aE0
import Derived.Deep.RegionWith
import Derived.Deep.AppendLies
import Derived.Deep.DeepMust
namespace Go.Proofs.Qxb6001094a
open Go.RowKit

def E5.val (x : E5) : Value := .agg #[.int .i64 x.a, .int .i64 x.b, .int .i64 x.c, .int .i64 x.d, .int .i64 x.e]

theorem two_boxes (w : World) (o1 o2 : Obj) : Below w.heap.size w ((w.alloc o1).alloc o2) := ((Below.refl _ _).alloc (Nat.le_refl _) _).alloc (by simp) _

set_option maxHeartbeats 400000 in
theorem evBefore_any (x y : E5) (w : World) : Calls Try.prog 17 #[x.val, y.val] w fun e w' => e = .returned (.bool (bef x y)) ∧ Below w.heap.size w w' := by
  unfold E5.val
  obtain ⟨r, hr⟩ : ∃ r, bef x y = r := ⟨_, rfl⟩
  rw [hr]
  by_cases h1 : x.a < y.a
  · obtain rfl : r = true := by rw [← hr, bef_iff]; omega
    have h1b : decide (x.a < y.a) = true := decide_eq_true h1
    clear hr
    go_enter Try.func17, Try.ntmps17
    go_wp2
    go_ret
    exact ⟨rfl, two_boxes _ _ _⟩
  · have h1b : decide (x.a < y.a) = false := decide_eq_false h1
    by_cases h2 : x.a = y.a
    · have h2b : (x.a == y.a) = true := by simp [h2]
      have h2c : decide (y.a < y.a) = false := by simp
      by_cases h3 : x.b < y.b
      · obtain rfl : r = true := by rw [← hr, bef_iff]; omega
        have h3b : decide (x.b < y.b) = true := decide_eq_true h3
        clear hr h2
        go_enter Try.func17, Try.ntmps17
        go_wp2
        go_ret
        exact ⟨rfl, two_boxes _ _ _⟩
      · obtain rfl : r = false := by rw [← hr, bef_false]; omega
        have h3b : decide (x.b < y.b) = false := decide_eq_false h3
        clear hr h2
        go_enter Try.func17, Try.ntmps17
        go_wp2
        go_ret
        exact ⟨rfl, two_boxes _ _ _⟩
    · have h2b : (x.a == y.a) = false := by simp [h2]
      obtain rfl : r = false := by rw [← hr, bef_false]; omega
      clear hr
      go_enter Try.func17, Try.ntmps17
      go_wp2
      go_ret
      exact ⟨rfl, two_boxes _ _ _⟩

set_option maxHeartbeats 400000 in
theorem before_any (x y : E5) (w : World) : Calls Try.prog 45 #[x.val, y.val] w fun e w' => e = .returned (.bool (bef x y)) ∧ Below w.heap.size w w' := by
  unfold E5.val
  obtain ⟨r, hr⟩ : ∃ r, bef x y = r := ⟨_, rfl⟩
  rw [hr]
  by_cases h1 : x.a < y.a
  · obtain rfl : r = true := by rw [← hr, bef_iff]; omega
    have h1b : decide (x.a < y.a) = true := decide_eq_true h1
    clear hr
    go_enter Try.func45, Try.ntmps45
    go_wp2
    go_ret
    exact ⟨rfl, two_boxes _ _ _⟩
  · have h1b : decide (x.a < y.a) = false := decide_eq_false h1
    by_cases h2 : x.a = y.a
    · have h2b : (x.a == y.a) = true := by simp [h2]
      have h2c : decide (y.a < y.a) = false := by simp
      by_cases h3 : x.b < y.b
      · obtain rfl : r = true := by rw [← hr, bef_iff]; omega
        have h3b : decide (x.b < y.b) = true := decide_eq_true h3
        clear hr h2
        go_enter Try.func45, Try.ntmps45
        go_wp2
        go_ret
        exact ⟨rfl, two_boxes _ _ _⟩
      · obtain rfl : r = false := by rw [← hr, bef_false]; omega
        have h3b : decide (x.b < y.b) = false := decide_eq_false h3
        clear hr h2
        go_enter Try.func45, Try.ntmps45
        go_wp2
        go_ret
        exact ⟨rfl, two_boxes _ _ _⟩
    · have h2b : (x.a == y.a) = false := by simp [h2]
      obtain rfl : r = false := by rw [← hr, bef_false]; omega
      clear hr
      go_enter Try.func45, Try.ntmps45
      go_wp2
      go_ret
      exact ⟨rfl, two_boxes _ _ _⟩

set_option maxHeartbeats 1000000 in
theorem evLess_any (x y : E5) (w : World) : Calls Try.prog 46 #[x.val, y.val] w fun e w' => e = .returned (.bool (less x y)) ∧ Below w.heap.size w w' := by
  unfold E5.val
  obtain ⟨r, hr⟩ : ∃ r, less x y = r := ⟨_, rfl⟩
  rw [hr]
  unfold less at hr
  by_cases h1 : x.a = y.a
  · rw [if_pos h1] at hr
    have h1b : (x.a != y.a) = false := by simp [h1]
    by_cases h2 : x.b = y.b
    · rw [if_pos h2] at hr
      have h2b : (x.b != y.b) = false := by simp [h2]
      by_cases h3 : x.c = y.c
      · rw [if_pos h3] at hr
        have h3b : (x.c != y.c) = false := by simp [h3]
        by_cases h4 : x.d = y.d
        · rw [if_pos h4] at hr
          have h4b : (x.d != y.d) = false := by simp [h4]
          have HR : Hid (decide (x.e < y.e) = r) := hr
          clear hr h1 h2 h3 h4
          go_enter Try.func46, Try.ntmps46
          go_wp2
          go_ret
          exact ⟨by rw [← HR.out]; rfl, two_boxes _ _ _⟩
        · rw [if_neg h4] at hr
          have h4b : (x.d != y.d) = true := by simp [h4]
          have HR : Hid (decide (x.d < y.d) = r) := hr
          clear hr h1 h2 h3 h4
          go_enter Try.func46, Try.ntmps46
          go_wp2
          go_ret
          exact ⟨by rw [← HR.out]; rfl, two_boxes _ _ _⟩
      · rw [if_neg h3] at hr
        have h3b : (x.c != y.c) = true := by simp [h3]
        have HR : Hid (decide (x.c < y.c) = r) := hr
        clear hr h1 h2 h3
        go_enter Try.func46, Try.ntmps46
        go_wp2
        go_ret
        exact ⟨by rw [← HR.out]; rfl, two_boxes _ _ _⟩
    · rw [if_neg h2] at hr
      have h2b : (x.b != y.b) = true := by simp [h2]
      have HR : Hid (decide (x.b < y.b) = r) := hr
      clear hr h1 h2
      go_enter Try.func46, Try.ntmps46
      go_wp2
      go_ret
      exact ⟨by rw [← HR.out]; rfl, two_boxes _ _ _⟩
  · rw [if_neg h1] at hr
    have h1b : (x.a != y.a) = true := by simp [h1]
    have HR : Hid (decide (x.a < y.a) = r) := hr
    clear hr h1
    go_enter Try.func46, Try.ntmps46
    go_wp2
    go_ret
    exact ⟨by rw [← HR.out]; rfl, two_boxes _ _ _⟩
end Go.Proofs.Qxb6001094a

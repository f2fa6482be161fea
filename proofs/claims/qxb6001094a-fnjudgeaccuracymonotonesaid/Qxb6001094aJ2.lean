import Derived.Test.Qxb6001094aBase
namespace Go.Proofs.Qxb6001094a
open Go.RowKit

set_option maxHeartbeats 400000 in
theorem bytes5_any (a0 : Option Addr) (n c0 : Nat) (x1 x2 : Int) (a3 : Option Addr) (m c3 : Nat) (x4 : Bool) (A : Nat → Option Addr) (L C : Nat → Nat) (w : World)
    (hn : n ≤ maxLen) (hm : m ≤ maxLen) (hL : ∀ r, r < m → L r ≤ maxLen) (hH : HeadsAt w a3 m A L C) :
    Calls Try.prog 21 #[.slice a0 n c0, .int .i64 x1, .int .i64 x2, .slice a3 m c3, .bool x4] w fun e w' => RB (fun _ => True) e ∧ w' = w := by
  unfold maxLen at hn hm hL
  have HL : Hid (∀ r, r < m → L r ≤ 2 ^ 63 - 1) := hL
  have HH : Hid (HeadsAt w a3 m A L C) := hH
  clear hL hH
  by_cases t1 : 1048576 < (n : Int)
  · go_enter Try.func21, Try.ntmps21
    go_wp2
    go_ret
    exact ⟨RB.mk trivial rfl, rfl⟩
  by_cases t2 : 1048576 < (m : Int)
  · go_enter Try.func21, Try.ntmps21
    go_wp2
    go_ret
    exact ⟨RB.mk trivial rfl, rfl⟩
  by_cases t3 : 1048576 < (n : Int) + (m : Int)
  · go_enter Try.func21, Try.ntmps21
    go_wp2
    go_ret
    exact ⟨RB.mk trivial rfl, rfl⟩
  go_enter Try.func21, Try.ntmps21
  go_wp2
  go_loop [11, 12] (fun z i => ∃ (k : Nat) (y : Int), k ≤ m ∧ 0 ≤ y ∧ y ≤ 1048576 ∧ i = .int .i64 k ∧ z = .int .i64 y) (fun _ i => m - (intOf i).toNat)
  case atStart => exact ⟨0, _, Nat.zero_le _, by omega, by omega, rfl, rfl⟩
  case round =>
    obtain ⟨k, y, hk, hy0, hy1, rfl, rfl⟩ := hrel
    by_cases hlt : k < m
    · rcases HH.out with h0 | ⟨b, o, rfl, hc⟩
      · omega
      have hck := hc k hlt
      have hLk := HL.out k hlt
      clear HL HH hc
      by_cases t4 : 1048576 < (L k : Int)
      · go_wp2
        go_ret
        exact ⟨RB.mk trivial rfl, rfl⟩
      by_cases t5 : 1048576 < y + (L k : Int)
      · go_wp2
        go_ret
        exact ⟨RB.mk trivial rfl, rfl⟩
      go_wp2
      go_round
      case rel => exact ⟨k + 1, _, by omega, by omega, by omega, by go_num, rfl⟩
      case measure => simp [intOf]; omega
    · go_wp2
      go_ret
      exact ⟨RB.mk trivial rfl, rfl⟩

set_option maxHeartbeats 400000 in
theorem bytes7_any (a0 : Option Addr) (n c0 : Nat) (x1 x2 x2b : Int) (a3 : Option Addr) (m c3 : Nat) (x4 : Bool) (A : Nat → Option Addr) (L C : Nat → Nat) (w : World)
    (hn : n ≤ maxLen) (hm : m ≤ maxLen) (hL : ∀ r, r < m → L r ≤ maxLen) (hH : HeadsAt w a3 m A L C) :
    Calls Try.prog 28 #[.slice a0 n c0, .int .i64 x1, .int .i64 x2, .int .i64 x2b, .slice a3 m c3, .bool x4] w fun e w' => RB (fun _ => True) e ∧ w' = w := by
  unfold maxLen at hn hm hL
  have HL : Hid (∀ r, r < m → L r ≤ 2 ^ 63 - 1) := hL
  have HH : Hid (HeadsAt w a3 m A L C) := hH
  clear hL hH
  by_cases t1 : 1048576 < (n : Int)
  · go_enter Try.func28, Try.ntmps28
    go_wp2
    go_ret
    exact ⟨RB.mk trivial rfl, rfl⟩
  by_cases t2 : 1048576 < (m : Int)
  · go_enter Try.func28, Try.ntmps28
    go_wp2
    go_ret
    exact ⟨RB.mk trivial rfl, rfl⟩
  by_cases t3 : 1048576 < (n : Int) + (m : Int)
  · go_enter Try.func28, Try.ntmps28
    go_wp2
    go_ret
    exact ⟨RB.mk trivial rfl, rfl⟩
  go_enter Try.func28, Try.ntmps28
  go_wp2
  go_loop [13, 14] (fun z i => ∃ (k : Nat) (y : Int), k ≤ m ∧ 0 ≤ y ∧ y ≤ 1048576 ∧ i = .int .i64 k ∧ z = .int .i64 y) (fun _ i => m - (intOf i).toNat)
  case atStart => exact ⟨0, _, Nat.zero_le _, by omega, by omega, rfl, rfl⟩
  case round =>
    obtain ⟨k, y, hk, hy0, hy1, rfl, rfl⟩ := hrel
    by_cases hlt : k < m
    · rcases HH.out with h0 | ⟨b, o, rfl, hc⟩
      · omega
      have hck := hc k hlt
      have hLk := HL.out k hlt
      clear HL HH hc
      by_cases t4 : 1048576 < (L k : Int)
      · go_wp2
        go_ret
        exact ⟨RB.mk trivial rfl, rfl⟩
      by_cases t5 : 1048576 < y + (L k : Int)
      · go_wp2
        go_ret
        exact ⟨RB.mk trivial rfl, rfl⟩
      go_wp2
      go_round
      case rel => exact ⟨k + 1, _, by omega, by omega, by omega, by go_num, rfl⟩
      case measure => simp [intOf]; omega
    · go_wp2
      go_ret
      exact ⟨RB.mk trivial rfl, rfl⟩

set_option maxHeartbeats 400000 in
theorem fits_any (a0 : Option Addr) (n c0 : Nat) (a3 : Option Addr) (m c3 : Nat) (A : Nat → Option Addr) (L C : Nat → Nat) (w : World)
    (hn : n ≤ maxLen) (hm : m ≤ maxLen) (hL : ∀ r, r < m → L r ≤ maxLen) (hH : HeadsAt w a3 m A L C) :
    Calls Try.prog 22 #[.slice a0 n c0, .slice a3 m c3] w fun e w' => RB (fun b => b = true → n ≤ 131072 ∧ m ≤ 131072) e ∧ w' = w := by
  unfold maxLen at hn hm hL
  have HL : Hid (∀ r, r < m → L r ≤ 2 ^ 63 - 1) := hL
  have HH : Hid (HeadsAt w a3 m A L C) := hH
  clear hL hH
  by_cases t1 : 131072 < (n : Int)
  · go_enter Try.func22, Try.ntmps22
    go_wp2
    go_ret
    exact ⟨RB.mk (b := false) (by simp) rfl, rfl⟩
  by_cases t2 : 131072 < (m : Int)
  · go_enter Try.func22, Try.ntmps22
    go_wp2
    go_ret
    exact ⟨RB.mk (b := false) (by simp) rfl, rfl⟩
  by_cases t3 : 1048576 < 8 * (n : Int) + 8 * (m : Int)
  · go_enter Try.func22, Try.ntmps22
    go_wp2
    go_ret
    exact ⟨RB.mk (b := false) (by simp) rfl, rfl⟩
  go_enter Try.func22, Try.ntmps22
  go_wp2
  go_loop [5, 7, 27] (fun z r i => ∃ (k : Nat) (y : Int), k ≤ m ∧ 0 ≤ y ∧ y ≤ 1048576 ∧ i = .int .i64 k ∧ z = .int .i64 y) (fun _ _ i => m - (intOf i).toNat)
  case atStart => exact ⟨0, _, Nat.zero_le _, by omega, by omega, rfl, rfl⟩
  case round =>
    obtain ⟨k, y, hk, hy0, hy1, rfl, rfl⟩ := hrel
    by_cases hlt : k < m
    · rcases HH.out with h0 | ⟨b, o, rfl, hc⟩
      · omega
      have hck := hc k hlt
      have hLk := HL.out k hlt
      clear HL HH hc
      by_cases t4 : 131072 < (L k : Int)
      · go_wp2
        go_ret
        exact ⟨RB.mk (b := false) (by simp) rfl, rfl⟩
      by_cases t5 : 1048576 < y + 8 * (L k : Int)
      · go_wp2
        go_ret
        exact ⟨RB.mk (b := false) (by simp) rfl, rfl⟩
      go_wp2
      go_round
      case rel => exact ⟨k + 1, _, by omega, by omega, by omega, by go_num, rfl⟩
      case measure => simp [intOf]; omega
    · go_wp2
      go_ret
      exact ⟨RB.mk (b := true) (fun _ => ⟨by omega, by omega⟩) rfl, rfl⟩

set_option maxHeartbeats 400000 in
theorem shaped_any (a0 : Option Addr) (n c0 : Nat) (a3 : Option Addr) (m c3 : Nat) (A : Nat → Option Addr) (L C : Nat → Nat) (w : World)
    (hn : n ≤ maxLen) (hm : m ≤ maxLen) (hH : HeadsAt w a3 m A L C) :
    Calls Try.prog 23 #[.slice a0 n c0, .slice a3 m c3] w fun e w' => RB (fun b => b = true → m = n ∧ ∀ r, r < m → L r = n) e ∧ w' = w := by
  unfold maxLen at hn hm
  have HH : Hid (HeadsAt w a3 m A L C) := hH
  clear hH
  by_cases t1 : m = n
  · subst t1
    have t2 : ((m : Int) != (m : Int)) = false := by simp
    go_enter Try.func23, Try.ntmps23
    go_wp2
    go_loop [7, 16] (fun r i => ∃ (k : Nat), k ≤ m ∧ i = .int .i64 k ∧ Hid (∀ j, j < k → L j = m)) (fun _ i => m - (intOf i).toNat)
    case atStart => exact ⟨0, Nat.zero_le _, rfl, fun j hj => by omega⟩
    case round =>
      obtain ⟨k, hk, rfl, hall⟩ := hrel
      by_cases hlt : k < m
      · rcases HH.out with h0 | ⟨b, o, rfl, hc⟩
        · omega
        have hck := hc k hlt
        clear HH hc
        by_cases t4 : L k = m
        · have t5 : ((L k : Int) != (m : Int)) = false := by simp [t4]
          have T4 : Hid (L k = m) := t4
          clear t4
          go_wp2
          go_round
          case rel => exact ⟨k + 1, by omega, by go_num, fun j hj => by
            by_cases e : j = k
            · rw [e]; exact T4.out
            · exact hall.out j (by omega)⟩
          case measure => simp [intOf]; omega
        · have t5 : ((L k : Int) != (m : Int)) = true := by simp; omega
          go_wp2
          go_ret
          exact ⟨RB.mk (b := false) (by simp) rfl, rfl⟩
      · go_wp2
        go_ret
        exact ⟨RB.mk (b := true) (fun _ r hr => hall.out r (by omega)) rfl, rfl⟩
  · have t2 : ((m : Int) != (n : Int)) = true := by simp; omega
    go_enter Try.func23, Try.ntmps23
    go_wp2
    go_ret
    exact ⟨RB.mk (b := false) (by simp) rfl, rfl⟩
end Go.Proofs.Qxb6001094a

import Derived.Test.Qxb6001416aBase
namespace Go.Proofs.Qxb6001416a
open Go.RowKit

/-- v is the last point's place, or -1. -/
def LastDot (s : ByteArray) (v : Int) : Prop := (v = -1 ∧ ∀ i, i < s.size → bt s i ≠ 46) ∨ ∃ k : Nat, k < s.size ∧ v = k ∧ bt s k = 46 ∧ ∀ i, k < i → i < s.size → bt s i ≠ 46

set_option maxRecDepth 100000 in
set_option maxHeartbeats 400000 in
theorem lastDot_any (s : ByteArray) (hs : s.size ≤ 1048577) (w : World) : Calls Try.prog 23 #[.string s] w fun e w' => (∃ v, e = .returned (.int .i64 v) ∧ LastDot s v) ∧ w' = w := by
  go_enter Try.func23, Try.ntmps23
  go_wp2_with fail
  go_loopg [3] s.size (fun gk s3 wr => ∃ k : Nat, k = gk ∧ k ≤ s.size ∧ s3 = .int .i64 ((k : Int) - 1) ∧ (∀ i, k ≤ i → i < s.size → bt s i ≠ 46) ∧ wr = w)
  case atStart => exact ⟨s.size, rfl, Nat.le_refl _, rfl, fun i h1 h2 => by omega, rfl⟩
  case round =>
    obtain ⟨k, rfl, hk, rfl, hno, rfl⟩ := hrel
    have HNO : Hid _ := hno
    clear hno
    cases k with
    | zero =>
      go_wp2
      go_ret
      exact ⟨⟨-1, rfl, .inl ⟨rfl, fun i hi => HNO.out i (Nat.zero_le _) hi⟩⟩, rfl⟩
    | succ k =>
      have hlt : k < s.size := by omega
      have hkz : (k : Int) < (s.size : Int) := by omega
      have hb := bt_of_lt hlt
      have hk0 : decide ((0 : Int) ≤ (k : Int)) = true := decide_eq_true (by omega)
      by_cases h46 : bt s k = 46
      · have H46 : Hid _ := h46
        rw [h46] at hb
        clear h46
        go_wp2
        go_ret
        exact ⟨⟨k, congrArg (fun v => Ending.returned (.int .i64 v)) (show (((k + 1 : Nat) : Int) - 1) = k by omega), .inr ⟨k, hlt, rfl, H46.out, fun i h1 h2 => HNO.out i h1 h2⟩⟩, rfl⟩
      · have hq : ((bt s k : Int) == 46) = false := by simp; omega
        go_wp2
        go_roundg k
        case rel =>
          refine ⟨k, rfl, by omega, by go_num, fun i h1 h2 => ?_, rfl⟩
          by_cases e : i = k
          · rw [e]; exact h46
          · exact HNO.out i (by omega) h2
        case measure => omega

theorem bytes22_any (s t : ByteArray) (hs : s.size ≤ maxLen) (ht : t.size ≤ maxLen) (w : World) : Calls Try.prog 22 #[.string s, .string t] w fun e w' => e = .returned (.bool (decide (s.size + t.size ≤ 1048576))) ∧ w' = w := by
  unfold maxLen at hs ht
  by_cases h1 : 1048576 < s.size
  · have h1z : decide ((1048576 : Int) < (s.size : Int)) = true := decide_eq_true (by omega)
    have hd : decide (s.size + t.size ≤ 1048576) = false := decide_eq_false (by omega)
    rw [hd]
    go_enter Try.func22, Try.ntmps22
    go_wp2
    go_ret
    exact ⟨rfl, rfl⟩
  have h1z : decide ((1048576 : Int) < (s.size : Int)) = false := decide_eq_false (by omega)
  by_cases h2 : 1048576 < t.size
  · have h2z : decide ((1048576 : Int) < (t.size : Int)) = true := decide_eq_true (by omega)
    have hd : decide (s.size + t.size ≤ 1048576) = false := decide_eq_false (by omega)
    rw [hd]
    go_enter Try.func22, Try.ntmps22
    go_wp2
    go_ret
    exact ⟨rfl, rfl⟩
  have h2z : decide ((1048576 : Int) < (t.size : Int)) = false := decide_eq_false (by omega)
  by_cases h3 : 1048576 < s.size + t.size
  · have h3z : decide ((1048576 : Int) < (s.size : Int) + (t.size : Int)) = true := decide_eq_true (by omega)
    have hd : decide (s.size + t.size ≤ 1048576) = false := decide_eq_false (by omega)
    rw [hd]
    clear hd
    go_enter Try.func22, Try.ntmps22
    go_wp2
    go_ret
    exact ⟨rfl, rfl⟩
  · have h3z : decide ((1048576 : Int) < (s.size : Int) + (t.size : Int)) = false := decide_eq_false (by omega)
    have hd : decide (s.size + t.size ≤ 1048576) = true := decide_eq_true (by omega)
    rw [hd]
    clear hd
    go_enter Try.func22, Try.ntmps22
    go_wp2
    go_ret
    exact ⟨rfl, rfl⟩

def dotS : ByteArray := ⟨#[46]⟩
def joinP (p n : ByteArray) : ByteArray := if p.size = 0 then n else p ++ dotS ++ n

theorem toList_empty {p : ByteArray} (h : p.size = 0) : p.toList.isEmpty = true := by
  rw [ByteArray.toList_eq]
  have : p.data.toList.length = 0 := h
  rw [List.eq_nil_of_length_eq_zero this]; rfl
theorem toList_some {p : ByteArray} (h : ¬ p.size = 0) : p.toList.isEmpty = false := by
  rw [ByteArray.toList_eq]
  cases hl : p.data.toList with
  | nil => exact absurd (show p.data.toList.length = 0 by rw [hl]; rfl) h
  | cons _ _ => rfl

set_option maxRecDepth 100000 in
theorem join_any (p n : ByteArray) (hp : p.size + n.size ≤ 1048576) (w : World) : Calls Try.prog 26 #[.string p, .string n] w fun e w' => e = .returned (.string (joinP p n)) ∧ w' = w := by
  unfold joinP
  by_cases h0 : p.size = 0
  · have he := toList_empty h0
    rw [if_pos h0]
    go_enter Try.func26, Try.ntmps26
    go_wp2
    go_ret
    exact ⟨rfl, rfl⟩
  · have he := toList_some h0
    rw [if_neg h0]
    go_enter Try.func26, Try.ntmps26
    go_wp2
    go_ret
    exact ⟨rfl, rfl⟩
theorem zzjoin_any (p n : ByteArray) (hp : p.size + n.size ≤ 1048576) (w : World) : Calls Try.prog 21 #[.string p, .string n] w fun e w' => e = .returned (.string (joinP p n)) ∧ w' = w := by
  go_enter Try.func21, Try.ntmps21
  go_wp2_with fail
  refine (join_any p n hp w).mono ?_
  rintro e w1 ⟨rfl, rfl⟩
  go_wp2
  go_ret
  exact ⟨rfl, rfl⟩

theorem bt_left {a b : ByteArray} {i : Nat} (h : i < a.size) : bt (a ++ b) i = bt a i := by
  have h2 : i < (a ++ b).size := by rw [ByteArray.size_append]; omega
  rw [← bt_of_lt h, ← bt_of_lt h2, ByteArray.getElem_append_left h]
theorem bt_right {a b : ByteArray} {i : Nat} (h : i < b.size) : bt (a ++ b) (a.size + i) = bt b i := by
  have h2 : a.size + i < (a ++ b).size := by rw [ByteArray.size_append]; omega
  rw [← bt_of_lt h, ← bt_of_lt h2, ByteArray.getElem_append_right (Nat.le_add_right _ _)]
  simp

theorem dotS_size : dotS.size = 1 := rfl
/-- ████ The plain law: the last point of a joined path is the one between. -/
theorem last_of_join {p n : ByteArray} {v : Int} (hn : ∀ i, i < n.size → bt n i ≠ 46) (h : LastDot (p ++ dotS ++ n) v) : v = p.size := by
  have hsz : (p ++ dotS ++ n).size = p.size + 1 + n.size := by rw [ByteArray.size_append, ByteArray.size_append, dotS_size]
  have hpd : (p ++ dotS).size = p.size + 1 := by rw [ByteArray.size_append, dotS_size]
  have hmid : bt (p ++ dotS ++ n) p.size = 46 := by
    rw [bt_left (by omega)]
    exact bt_right (a := p) (b := dotS) (i := 0) (by decide)
  have hafter : ∀ i, p.size < i → i < (p ++ dotS ++ n).size → bt (p ++ dotS ++ n) i ≠ 46 := by
    intro i h1 h2
    obtain ⟨k, rfl⟩ : ∃ k, i = (p ++ dotS).size + k := ⟨i - (p.size + 1), by omega⟩
    rw [bt_right (by omega)]
    exact hn k (by omega)
  rcases h with ⟨rfl, h⟩ | ⟨k, hk, rfl, h1, h2⟩
  · exact absurd hmid (h _ (by omega))
  · by_cases e : k = p.size
    · rw [e]
    · by_cases e2 : k < p.size
      · exact absurd hmid (h2 _ e2 (by omega))
      · exact absurd h1 (hafter k (by omega) hk)

set_option maxRecDepth 100000 in
set_option maxHeartbeats 1000000 in
theorem walk9 (p n : ByteArray) (hp : p.size ≤ maxLen) (hn : n.size ≤ maxLen) (w : World) :
    Calls Try.prog 9 #[.string p, .string n] w fun e w' => e = .returned (.bool true) ∧ w' = w := by
  have K := bytes22_any p n hp hn w
  unfold maxLen at hp hn
  by_cases hbig : p.size + n.size ≤ 1048576
  case neg =>
    rw [decide_eq_false hbig] at K
    have H : Hid (Calls _ _ _ _ _) := K
    clear K
    go_enter Try.func9, Try.ntmps9
    go_wp2_with fail
    refine H.out.mono ?_
    rintro e w1 ⟨rfl, rfl⟩
    go_wp2
    go_ret
    exact ⟨rfl, rfl⟩
  rw [decide_eq_true hbig] at K
  have H : Hid (Calls _ _ _ _ _) := K
  clear K
  have t1 : decide ((1048576 : Int) < (p.size : Int)) = false := decide_eq_false (by omega)
  have t2 : decide ((1048576 : Int) < (n.size : Int)) = false := decide_eq_false (by omega)
  have t3 : decide ((1048576 : Int) < (p.size : Int) + (n.size : Int)) = false := decide_eq_false (by omega)
  have HJ : Hid (p.size + n.size ≤ 1048576) := hbig
  go_enter Try.func9, Try.ntmps9
  go_wp2_with fail
  refine H.out.mono ?_
  rintro e w1 ⟨rfl, rfl⟩
  go_wp2_with fail
  refine (lastDot_any n (by omega) w1).mono ?_
  rintro e w2 ⟨⟨v, rfl, hv⟩, rfl⟩
  rcases hv with ⟨rfl, hno⟩ | ⟨k, hk, rfl, -, -⟩
  case inr =>
    have hk0 : decide ((0 : Int) ≤ (k : Int)) = true := decide_eq_true (by omega)
    go_wp2
    go_ret
    exact ⟨rfl, rfl⟩
  have HNO : Hid _ := hno
  clear hno
  go_wp2_with fail
  refine (zzjoin_any p n HJ.out w2).mono ?_
  rintro e w3 ⟨rfl, rfl⟩
  by_cases h0 : p.size = 0
  · have he := toList_empty h0
    have hj : joinP p n = n := by unfold joinP; rw [if_pos h0]
    rw [hj]
    clear hj
    go_wp2_with fail
    refine (lastDot_any n (by omega) w3).mono ?_
    rintro e w4 ⟨⟨v, rfl, hv⟩, rfl⟩
    rcases hv with ⟨rfl, -⟩ | ⟨k, hk, rfl, h46, -⟩
    case inr => exact absurd h46 (HNO.out k hk)
    go_wp2
    go_ret
    exact ⟨rfl, rfl⟩
  · have he := toList_some h0
    have hj : joinP p n = p ++ dotS ++ n := by unfold joinP; rw [if_neg h0]
    have hjs : (p ++ dotS ++ n).size = p.size + 1 + n.size := by rw [ByteArray.size_append, ByteArray.size_append, dotS_size]
    have hx1 : (p ++ dotS ++ n).extract 0 p.size = p := by rw [ByteArray.append_assoc]; exact ByteArray.extract_append_eq_left rfl
    have hx2 : (p ++ dotS ++ n).extract (p.size + 1) (p.size + 1 + n.size) = n := by refine ByteArray.extract_append_eq_right ?_ ?_ <;> rw [ByteArray.size_append, dotS_size]
    have hl := fun v => last_of_join (p := p) (v := v) HNO.out
    rw [hj]
    generalize p ++ dotS ++ n = j at hjs hx1 hx2 hl ⊢
    have HL : Hid _ := hl
    clear hj hl
    go_wp2_with fail
    refine (lastDot_any j (by omega) w3).mono ?_
    rintro e w4 ⟨⟨v, rfl, hv⟩, rfl⟩
    obtain rfl := HL.out v hv
    clear hv
    have hps : (p.size : Int) ≤ (j.size : Int) := by omega
    have hps1 : (p.size : Int) + 1 ≤ (j.size : Int) := by omega
    have hp0 : decide ((0 : Int) ≤ (p.size : Int)) = true := decide_eq_true (by omega)
    go_wp2
    go_ret
    exact ⟨rfl, rfl⟩
end Go.Proofs.Qxb6001416a

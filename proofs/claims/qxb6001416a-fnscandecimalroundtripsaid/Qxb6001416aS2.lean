import Derived.Test.Qxb6001416aBase
namespace Go.Proofs.Qxb6001416a
open Go.RowKit

/-- What renderDecimal writes from the place i - 1 down. -/
def tail (e m : Nat) : Nat → List Nat
  | 0 => []
  | i + 1 => (48 + m / 10 ^ i % 10) :: (if i = e ∧ 0 < e then 46 :: tail e m i else tail e m i)
def full (ng : Bool) (e m K : Nat) : List Nat := if ng = true then 45 :: tail e m K else tail e m K

theorem tail_lt (e m i : Nat) : ∀ b ∈ tail e m i, b < 256 := by
  induction i with
  | zero => intro b hb; cases hb
  | succ i ih =>
    intro b hb
    unfold tail at hb
    rcases List.mem_cons.1 hb with rfl | hb
    · have := Nat.mod_lt (m / 10 ^ i) (show 0 < 10 by decide); omega
    · split at hb
      · rcases List.mem_cons.1 hb with rfl | hb
        · decide
        · exact ih b hb
      · exact ih b hb
theorem full_lt (ng : Bool) (e m K : Nat) : ∀ b ∈ full ng e m K, b < 256 := by
  unfold full
  split
  · intro b hb
    rcases List.mem_cons.1 hb with rfl | hb
    · decide
    · exact tail_lt e m K b hb
  · exact tail_lt e m K
theorem tail_length (e m i : Nat) : (tail e m i).length = i + (if e < i ∧ 0 < e then 1 else 0) := by
  induction i with
  | zero => rw [if_neg (by omega)]; rfl
  | succ i ih =>
    unfold tail
    by_cases h : i = e ∧ 0 < e
    · rw [if_pos h, if_pos (by omega)]
      rw [if_neg (by omega)] at ih
      simp only [List.length_cons, ih]
    · rw [if_neg h]
      simp only [List.length_cons, ih]
      by_cases h2 : e < i ∧ 0 < e
      · rw [if_pos h2, if_pos (by omega)]
      · rw [if_neg h2, if_neg (by omega)]
theorem full_length (ng : Bool) (e m K : Nat) : (full ng e m K).length ≤ K + 2 := by
  unfold full
  split
  · rw [List.length_cons, tail_length]; split <;> omega
  · rw [tail_length]; split <;> omega

/-- The scan's state, the places from i on read. -/
def scAt (e m K i : Nat) : Sc := ⟨decide (0 < e ∧ i ≤ e), K - i, if 0 < e ∧ i ≤ e then e - i else 0, m / 10 ^ i⟩

theorem run_tail (e m K : Nat) (hK : K ≤ 18) (i : Nat) (hi : i ≤ K) : (scAt e m K i).run (tail e m i) = some (scAt e m K 0) := by
  induction i with
  | zero => rfl
  | succ i ih =>
    have ih := ih (by omega)
    have hd : m / 10 ^ i % 10 < 10 := Nat.mod_lt _ (by decide)
    have hc : m / 10 ^ (i + 1) * 10 + m / 10 ^ i % 10 = m / 10 ^ i := by
      rw [Nat.pow_succ, ← Nat.div_div_eq_div_mul]; omega
    unfold tail
    show (match (scAt e m K (i + 1)).step (48 + m / 10 ^ i % 10) with | some st' => st'.run _ | none => none) = _
    rw [Sc.step_digit (by omega)]
    have e18 : (scAt e m K (i + 1)).d + 1 ≤ 18 := by show K - (i + 1) + 1 ≤ 18; omega
    rw [if_pos e18]
    show Sc.run ⟨decide (0 < e ∧ i + 1 ≤ e), K - (i + 1) + 1, if decide (0 < e ∧ i + 1 ≤ e) = true then (if 0 < e ∧ i + 1 ≤ e then e - (i + 1) else 0) + 1 else (if 0 < e ∧ i + 1 ≤ e then e - (i + 1) else 0), m / 10 ^ (i + 1) * 10 + (48 + m / 10 ^ i % 10 - 48)⟩ _ = _
    rw [Nat.add_sub_cancel_left, hc, show K - (i + 1) + 1 = K - i by omega]
    by_cases h : i = e ∧ 0 < e
    · obtain ⟨rfl, h0⟩ := h
      have hn : ¬ (0 < i ∧ i + 1 ≤ i) := by omega
      rw [decide_eq_false hn, if_neg hn, if_neg (show ¬ (false = true) by simp), if_pos (show i = i ∧ 0 < i from ⟨rfl, h0⟩)]
      show (match Sc.step ⟨false, K - i, 0, m / 10 ^ i⟩ 46 with | some st' => st'.run _ | none => none) = _
      rw [Sc.step_point ⟨rfl, rfl, by show 0 < K - i; omega⟩]
      have hx : scAt i m K i = ⟨true, K - i, 0, m / 10 ^ i⟩ := by
        unfold scAt
        rw [decide_eq_true ⟨h0, Nat.le_refl _⟩, if_pos ⟨h0, Nat.le_refl _⟩, Nat.sub_self]
      rw [hx] at ih
      exact ih
    · by_cases h2 : 0 < e ∧ i + 1 ≤ e
      · rw [decide_eq_true h2, if_pos h2, if_pos (show true = true from rfl), if_neg h]
        have hx : scAt e m K i = ⟨true, K - i, e - (i + 1) + 1, m / 10 ^ i⟩ := by
          unfold scAt
          rw [decide_eq_true ⟨h2.1, by omega⟩, if_pos ⟨h2.1, by omega⟩, show e - (i + 1) + 1 = e - i by omega]
        rw [hx] at ih
        exact ih
      · rw [decide_eq_false h2, if_neg h2, if_neg (show ¬ (false = true) by simp), if_neg h]
        have h3 : ¬ (0 < e ∧ i ≤ e) := by omega
        have hx : scAt e m K i = ⟨false, K - i, 0, m / 10 ^ i⟩ := by
          unfold scAt
          rw [decide_eq_false h3, if_neg h3]
        rw [hx] at ih
        exact ih

/-- The text. -/
def text (ng : Bool) (e m K : Nat) : ByteArray := ⟨((full ng e m K).map UInt8.ofNat).toArray⟩
theorem bts_of {l : List Nat} (h : ∀ b ∈ l, b < 256) : bts ⟨(l.map UInt8.ofNat).toArray⟩ = l := by
  unfold bts
  simp only [List.map_map]
  refine (List.map_congr_left (g := id) fun b hb => ?_).trans (List.map_id l)
  have := h b hb
  simp [Nat.mod_eq_of_lt this]
theorem bts_extract (s : ByteArray) : bts (s.extract 1 s.size) = (bts s).drop 1 := by
  unfold bts
  rw [ByteArray.data_extract]
  have h : s.size = s.data.toList.length := rfl
  rw [h, Array.toList_extract, List.extract_eq_take_drop, List.take_of_length_le (by simp), List.map_drop]
theorem bt_zero {s : ByteArray} {b : Nat} {l : List Nat} (h : bts s = b :: l) : 0 < s.size ∧ bt s 0 = b := by
  have h1 : 0 < s.size := by rw [← bts_length, h]; simp
  have h2 := bts_getElem h1
  rw [h] at h2
  exact ⟨h1, by simpa using h2.symm⟩

/-- ████ The plain law: what was written is read back. -/
theorem scan_text (ng : Bool) (e m K : Nat) (he : e < K) (hK : K ≤ 18) (hm : m < 10 ^ K) :
    scanVal (text ng e m K) = .tuple #[.int .i64 (if ng = true then -(m : Int) else m), .int .i32 (-(e : Int)), .int .i64 K, .bool true] := by
  have hb : bts (text ng e m K) = full ng e m K := bts_of (full_lt ng e m K)
  have hng : isNeg (text ng e m K) = ng := by
    unfold isNeg
    cases ng with
    | true =>
      obtain ⟨h1, h2⟩ := bt_zero (b := 45) (l := tail e m K) (hb.trans rfl)
      exact decide_eq_true ⟨h1, h2⟩
    | false =>
      obtain ⟨i, rfl⟩ : ∃ i, K = i + 1 := ⟨K - 1, by omega⟩
      obtain ⟨h1, h2⟩ := bt_zero (b := 48 + m / 10 ^ i % 10) (l := _) (hb.trans rfl)
      exact decide_eq_false (by rw [h2]; omega)
  have hbody : bts (body (text ng e m K)) = tail e m K := by
    unfold body
    rw [hng]
    cases ng with
    | true => rw [if_pos rfl, bts_extract, hb]; rfl
    | false => rw [if_neg (by simp), hb]; rfl
  have hst : scAt e m K K = Sc.start := by
    unfold scAt Sc.start
    rw [decide_eq_false (by omega), if_neg (by omega), Nat.div_eq_of_lt hm, Nat.sub_self]
  have hrun : Sc.start.run (tail e m K) = some (scAt e m K 0) := by rw [← hst]; exact run_tail e m K hK K (Nat.le_refl _)
  have hend : scAt e m K 0 = ⟨decide (0 < e), K, e, m⟩ := by
    unfold scAt
    by_cases h : 0 < e
    · rw [if_pos ⟨h, Nat.zero_le _⟩]; simp
    · rw [if_neg (by omega)]; simp; omega
  have hok : (scAt e m K 0).ok = true := by
    rw [hend]
    unfold Sc.ok
    by_cases h : 0 < e
    · simp; omega
    · simp [h]; omega
  unfold scanVal scanP
  rw [hbody, hrun]
  simp only [hok, if_true]
  rw [hend, hng]
  rfl
end Go.Proofs.Qxb6001416a

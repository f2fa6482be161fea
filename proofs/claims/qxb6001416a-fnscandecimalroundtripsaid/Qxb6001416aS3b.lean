import Derived.Test.Qxb6001416aS3
namespace Go.Proofs.Qxb6001416a
open Go.RowKit Go.Deep

theorem text_size (ng : Bool) (e m K : Nat) (hK : K ≤ 18) : (text ng e m K).size ≤ 1048576 := by
  have h : (text ng e m K).size = (full ng e m K).length := by
    rw [← bts_length]
    unfold text
    rw [bts_of (full_lt ng e m K)]
  have := full_length ng e m K
  omega

theorem zzscan_text (ng : Bool) (e m K : Nat) (he : e < K) (hK : K ≤ 18) (hm : m < 10 ^ K) (n : Int) (hn : n = if ng = true then -(m : Int) else m) (w : World) :
    Calls Try.prog 11 #[.string (text ng e m K)] w fun r w' => r = .returned (.tuple #[.int .i64 n, .int .i32 (-(e : Int)), .int .i64 K, .bool true]) ∧ w' = w := by
  have K1 := scan_any (text ng e m K) (text_size ng e m K hK) w
  rw [scan_text ng e m K he hK hm, ← hn] at K1
  have H : Hid (Calls _ _ _ _ _) := K1
  generalize text ng e m K = s at H
  clear K1 hn
  go_enter Try.func11, Try.ntmps11
  go_wp2_with fail
  refine H.out.mono ?_
  rintro r w1 ⟨rfl, rfl⟩
  go_wp2
  exact bodyPost_ret (results_tmp4 rfl _ _ _) rfl ⟨rfl, rfl⟩

set_option maxRecDepth 100000 in
set_option maxHeartbeats 1000000 in
theorem walk3 (n x : Int) (w : World) :
    Calls Try.prog 3 #[.int .i64 n, .int .i64 x] w fun e w' => e = .returned (.bool true) ∧ Below w.heap.size w w' := by
  by_cases h1 : n ≤ -1000000000000000000
  · have h1d : decide (n ≤ -1000000000000000000) = true := decide_eq_true h1
    go_enter Try.func3, Try.ntmps3
    go_wp2
    go_ret
    exact ⟨rfl, Below.refl _ _⟩
  have h1d : decide (n ≤ -1000000000000000000) = false := decide_eq_false h1
  by_cases h2 : 1000000000000000000 ≤ n
  · have h2d : decide (1000000000000000000 ≤ n) = true := decide_eq_true h2
    go_enter Try.func3, Try.ntmps3
    go_wp2
    go_ret
    exact ⟨rfl, Below.refl _ _⟩
  have h2d : decide (1000000000000000000 ≤ n) = false := decide_eq_false h2
  by_cases h3 : x < 0
  · have h3d : decide (x < 0) = true := decide_eq_true h3
    go_enter Try.func3, Try.ntmps3
    go_wp2
    go_ret
    exact ⟨rfl, Below.refl _ _⟩
  have h3d : decide (x < 0) = false := decide_eq_false h3
  by_cases h4 : 17 < x
  · have h4d : decide (17 < x) = true := decide_eq_true h4
    go_enter Try.func3, Try.ntmps3
    go_wp2
    go_ret
    exact ⟨rfl, Below.refl _ _⟩
  obtain ⟨e, rfl⟩ : ∃ e : Nat, x = (e : Int) := ⟨x.toNat, by omega⟩
  have h4d : decide ((17 : Int) < (e : Int)) = false := decide_eq_false h4
  obtain ⟨ng, m, hng, hn⟩ : ∃ (ng : Bool) (m : Nat), decide (n < 0) = ng ∧ n = if ng = true then -(m : Int) else m := by
    by_cases h : n < 0
    · exact ⟨true, n.natAbs, decide_eq_true h, by rw [if_pos rfl]; omega⟩
    · exact ⟨false, n.natAbs, decide_eq_false h, by rw [if_neg (by simp)]; omega⟩
  have hm : m < 1000000000000000000 := by
    cases ng with
    | true => rw [if_pos rfl] at hn; omega
    | false => rw [if_neg (by simp)] at hn; omega
  have HR : Hid (Calls _ _ _ _ _) := render_any n ng m e hm (by omega) hng hn w
  have HN : Hid _ := hn
  have he17 : e ≤ 17 := by omega
  clear hng hn hm h1 h2 h3 h4
  go_enter Try.func3, Try.ntmps3
  go_wp2_with fail
  refine HR.out.mono ?_
  rintro r w1 ⟨⟨K, k1, k2, k3, rfl⟩, hb⟩
  have HS : Hid (Calls _ _ _ _ _) := zzscan_text ng e m K k1 k2 k3 n HN.out w1
  have hKd : decide ((K : Int) ≤ 18) = true := decide_eq_true (by omega)
  generalize text ng e m K = s at HS ⊢
  clear k3 HR HN
  go_wp2_with fail
  refine HS.out.mono ?_
  rintro r w2 ⟨rfl, rfl⟩
  go_wp2
  go_ret
  exact ⟨rfl, hb⟩
end Go.Proofs.Qxb6001416a

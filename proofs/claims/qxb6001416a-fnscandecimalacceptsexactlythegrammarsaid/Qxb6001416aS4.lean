import Derived.Test.Qxb6001416aBase
namespace Go.Proofs.Qxb6001416a
open Go.RowKit

set_option maxHeartbeats 400000 in
theorem zzscan_any (s : ByteArray) (hs : s.size ≤ 1048576) (w : World) :
    Calls Try.prog 11 #[.string s] w fun e w' => e = .returned (scanVal s) ∧ w' = w := by
  have h4 : ∃ a b c d, scanVal s = .tuple #[.int .i64 a, .int .i32 b, .int .i64 c, .bool d] := by
    unfold scanVal
    split
    · exact ⟨_, _, _, _, rfl⟩
    · exact ⟨_, _, _, _, rfl⟩
  have K := scan_any s hs w
  obtain ⟨a, b, c, d, hv⟩ := h4
  rw [hv] at K ⊢
  have H : Hid (Calls _ _ _ _ _) := K
  clear K hv
  go_enter Try.func11, Try.ntmps11
  go_wp2_with fail
  refine H.out.mono ?_
  rintro e w1 ⟨rfl, rfl⟩
  go_wp2
  exact bodyPost_ret (results_tmp4 rfl _ _ _) rfl ⟨rfl, rfl⟩

def isDig (b : Nat) : Bool := decide (48 ≤ b ∧ b ≤ 57)
theorem isDig_any (b : Nat) (hb : b < 256) (w : World) : Calls Try.prog 13 #[.int .u8 (b : Int)] w fun e w' => e = .returned (.bool (isDig b)) ∧ w' = w := by
  by_cases h1 : 48 ≤ b
  · have h1z : decide ((48 : Int) ≤ (b : Int)) = true := decide_eq_true (by omega)
    by_cases h2 : b ≤ 57
    · have h2z : decide ((b : Int) ≤ 57) = true := decide_eq_true (by omega)
      have hd : isDig b = true := by simp [isDig, h1, h2]
      rw [hd]
      go_enter Try.func13, Try.ntmps13
      go_wp2
      go_ret
      exact ⟨rfl, rfl⟩
    · have h2z : decide ((b : Int) ≤ 57) = false := decide_eq_false (by omega)
      have hd : isDig b = false := by simp [isDig, h2]
      rw [hd]
      go_enter Try.func13, Try.ntmps13
      go_wp2
      go_ret
      exact ⟨rfl, rfl⟩
  · have h1z : decide ((48 : Int) ≤ (b : Int)) = false := decide_eq_false (by omega)
    have hd : isDig b = false := by simp [isDig, h1]
    rw [hd]
    go_enter Try.func13, Try.ntmps13
    go_wp2
    go_ret
    exact ⟨rfl, rfl⟩

theorem bytes12_any (s : ByteArray) (hs : s.size ≤ maxLen) (w : World) : Calls Try.prog 12 #[.string s] w fun e w' => e = .returned (.bool (decide (s.size ≤ 1048576))) ∧ w' = w := by
  unfold maxLen at hs
  by_cases h : 1048576 < s.size
  · have hz : decide ((1048576 : Int) < (s.size : Int)) = true := decide_eq_true (by omega)
    have hd : decide (s.size ≤ 1048576) = false := decide_eq_false (by omega)
    rw [hd]
    go_enter Try.func12, Try.ntmps12
    go_wp2
    go_ret
    exact ⟨rfl, rfl⟩
  · have hz : decide ((1048576 : Int) < (s.size : Int)) = false := decide_eq_false (by omega)
    have hd : decide (s.size ≤ 1048576) = true := decide_eq_true (by omega)
    rw [hd]
    go_enter Try.func12, Try.ntmps12
    go_wp2
    go_ret
    exact ⟨rfl, rfl⟩

/-- The law's own reading. -/
structure G where
  nd : Nat
  dots : Nat
  dot : Nat
  ok : Bool
def G.step (g : G) (k b : Nat) : G := if isDig b = true then { g with nd := g.nd + 1 } else if b = 46 then { g with dots := g.dots + 1, dot := k } else { g with ok := false }
def gAt (t : ByteArray) : Nat → G
  | 0 => ⟨0, 0, 0, true⟩
  | k + 1 => (gAt t k).step k (bt t k)

theorem gAt_le (t : ByteArray) (k : Nat) : (gAt t k).nd ≤ k ∧ (gAt t k).dots ≤ k ∧ (gAt t k).dot ≤ k := by
  induction k with
  | zero => exact ⟨Nat.le_refl _, Nat.le_refl _, Nat.le_refl _⟩
  | succ k ih =>
    obtain ⟨h1, h2, h3⟩ := ih
    show (G.step _ _ _).nd ≤ _ ∧ (G.step _ _ _).dots ≤ _ ∧ (G.step _ _ _).dot ≤ _
    unfold G.step
    split
    · exact ⟨by show _ + 1 ≤ k + 1; omega, by show (gAt t k).dots ≤ k + 1; omega, by show (gAt t k).dot ≤ k + 1; omega⟩
    · split
      · exact ⟨by show (gAt t k).nd ≤ k + 1; omega, by show _ + 1 ≤ k + 1; omega, by show k ≤ k + 1; omega⟩
      · exact ⟨by show (gAt t k).nd ≤ k + 1; omega, by show (gAt t k).dots ≤ k + 1; omega, by show (gAt t k).dot ≤ k + 1; omega⟩
theorem gAt_dot (t : ByteArray) (k : Nat) : 0 < (gAt t k).dots → (gAt t k).dot < k := by
  induction k with
  | zero => intro h; exact absurd h (Nat.lt_irrefl 0)
  | succ k ih =>
    show 0 < (G.step _ _ _).dots → (G.step _ _ _).dot < _
    unfold G.step
    split
    · intro h; have := ih h; show (gAt t k).dot < k + 1; omega
    · split
      · intro _; show k < k + 1; omega
      · intro h; have := ih h; show (gAt t k).dot < k + 1; omega
/-- How the two readings go together. -/
def Together (t : ByteArray) (k : Nat) (g : G) : Option Sc → Prop
  | some st => g.ok = true ∧ st.d = g.nd ∧ (st.p = false → g.dots = 0 ∧ st.a = 0 ∧ st.d = k ∧ ∀ i, i < k → isDig (bt t i) = true) ∧
      (st.p = true → g.dots = 1 ∧ st.a + g.dot + 1 = k ∧ 0 < g.dot ∧ 0 < st.d ∧ bt t g.dot = 46 ∧ ∀ i, i < k → i ≠ g.dot → isDig (bt t i) = true)
  | none => g.ok = false ∨ 1 < g.dots ∨ isDig (bt t 0) = false

theorem isDig_46 : isDig 46 = false := by decide
theorem bad_of_isDig {b : Nat} (h : isDig b = false) : b < 48 ∨ 57 < b := by
  have := of_decide_eq_false h
  omega
theorem good_of_isDig {b : Nat} (h : isDig b = true) : ¬ (b < 48 ∨ 57 < b) := by
  have := of_decide_eq_true h
  omega

theorem together (t : ByteArray) : ∀ k, k ≤ t.size → Together t k (gAt t k) (Sc.start.run ((bts t).take k)) := by
  intro k
  induction k with
  | zero =>
    intro _
    exact ⟨rfl, rfl, fun _ => ⟨rfl, rfl, rfl, fun i hi => by omega⟩, fun h => by cases h⟩
  | succ k ih =>
    intro hk
    have ih := ih (by omega)
    rw [bts_take_succ (by omega), Sc.run_append]
    cases hr : Sc.start.run ((bts t).take k) with
    | none =>
      rw [hr] at ih
      show _ ∨ _ ∨ _
      rcases ih with h | h | h
      · left
        show (G.step _ _ _).ok = false
        unfold G.step
        split
        · exact h
        · split
          · exact h
          · rfl
      · right; left
        show 1 < (G.step _ _ _).dots
        unfold G.step
        split
        · exact h
        · split
          · show 1 < (gAt t k).dots + 1; omega
          · exact h
      · right; right; exact h
    | some st =>
      rw [hr] at ih
      obtain ⟨h1, h2, h3, h4⟩ := ih
      simp only [Sc.run]
      show Together t (k + 1) ((gAt t k).step k (bt t k)) _
      cases hd : isDig (bt t k) with
      | true =>
        rw [Sc.step_digit (good_of_isDig hd)]
        unfold G.step
        rw [if_pos hd]
        refine ⟨h1, by show st.d + 1 = _ + 1; omega, ?_, ?_⟩
        · intro hp
          have hp' : st.p = false := hp
          obtain ⟨e1, e2, e3, e4⟩ := h3 hp'
          refine ⟨e1, ?_, by show st.d + 1 = k + 1; omega, fun i hi => ?_⟩
          · show (if st.p = true then st.a + 1 else st.a) = 0
            rw [hp', if_neg (by simp)]; exact e2
          · by_cases e : i = k
            · rw [e]; exact hd
            · exact e4 i (by omega)
        · intro hp
          have hp' : st.p = true := hp
          obtain ⟨e1, e2, e3, e4, e5, e6⟩ := h4 hp'
          refine ⟨e1, ?_, e3, by show 0 < st.d + 1; omega, e5, fun i hi hi2 => ?_⟩
          · show (if st.p = true then st.a + 1 else st.a) + _ + 1 = k + 1
            rw [if_pos hp']
            show st.a + 1 + (gAt t k).dot + 1 = k + 1
            omega
          · by_cases e : i = k
            · rw [e]; exact hd
            · exact e6 i (by omega) hi2
      | false =>
        by_cases h46 : bt t k = 46
        · unfold G.step
          rw [if_neg (by rw [hd]; simp), if_pos h46]
          cases hp : st.p with
          | true =>
            obtain ⟨e1, e2, e3, e4, e5, e6⟩ := h4 hp
            rw [Sc.step_bad (by rw [hp]; simp) (bad_of_isDig hd)]
            right; left
            show 1 < (gAt t k).dots + 1
            omega
          | false =>
            obtain ⟨e1, e2, e3, e4⟩ := h3 hp
            by_cases hk0 : k = 0
            · subst hk0
              rw [Sc.step_bad (by omega) (bad_of_isDig hd)]
              right; right; exact hd
            · rw [Sc.step_point ⟨h46, hp, by omega⟩]
              refine ⟨h1, h2, fun h => (by cases h), fun _ => ⟨by show (gAt t k).dots + 1 = 1; omega, by show st.a + k + 1 = k + 1; omega, by show 0 < k; omega, by show 0 < st.d; omega, h46, fun i hi hi2 => e4 i ?_⟩⟩
              have hi3 : i ≠ k := hi2
              omega
        · unfold G.step
          rw [if_neg (by rw [hd]; simp), if_neg h46]
          rw [Sc.step_bad (by omega) (bad_of_isDig hd)]
          left; rfl

def want (t : ByteArray) : Bool := decide (0 < t.size) && isDig (bt t 0) && isDig (bt t (t.size - 1))
def wantOK (t : ByteArray) : Bool := want t && (gAt t t.size).ok && decide ((gAt t t.size).dots ≤ 1)
/-- ████ The plain law: the two readings agree. -/
theorem agree (s : ByteArray) : (wantOK (body s) = false ∧ scanP s = none) ∨
    (wantOK (body s) = true ∧ ∃ st, scanP s = some st ∧ st.d = (gAt (body s) (body s).size).nd ∧ st.a = (if (gAt (body s) (body s).size).dots = 1 then (body s).size - (gAt (body s) (body s).size).dot - 1 else 0)) := by
  have h := together (body s) (body s).size (Nat.le_refl _)
  rw [← bts_length, List.take_length, bts_length] at h
  unfold scanP wantOK want
  generalize body s = t at h ⊢
  generalize hg : gAt t t.size = g at h ⊢
  cases hr : Sc.start.run (bts t) with
  | none =>
    rw [hr] at h
    left
    refine ⟨?_, rfl⟩
    rcases h with h | h | h
    · simp [h]
    · have : decide (g.dots ≤ 1) = false := decide_eq_false (by omega)
      rw [this]; simp
    · simp [h]
  | some st =>
    rw [hr] at h
    obtain ⟨h1, h2, h3, h4⟩ := h
    simp only
    cases hp : st.p with
    | false =>
      obtain ⟨e1, e2, e3, e4⟩ := h3 hp
      by_cases hz : t.size = 0
      · left
        rw [if_neg (by unfold Sc.ok; rw [e3, hz]; simp)]
        exact ⟨by rw [hz]; simp, rfl⟩
      · right
        rw [if_pos (by unfold Sc.ok; rw [hp]; simp; omega)]
        refine ⟨?_, st, rfl, h2, by rw [if_neg (by omega)]; exact e2⟩
        rw [e4 0 (by omega), e4 (t.size - 1) (by omega), h1]
        simp [e1]; omega
    | true =>
      obtain ⟨e1, e2, e3, e4, e5, e6⟩ := h4 hp
      have f0 : isDig (bt t 0) = true := e6 0 (by omega) (by omega)
      by_cases ha : st.a = 0
      · left
        rw [if_neg (by unfold Sc.ok; rw [hp, ha]; simp)]
        refine ⟨?_, rfl⟩
        have : t.size - 1 = g.dot := by omega
        rw [this, e5, isDig_46]; simp
      · right
        rw [if_pos (by unfold Sc.ok; rw [hp]; simp; omega)]
        refine ⟨?_, st, rfl, h2, by rw [if_pos e1]; omega⟩
        rw [f0, e6 (t.size - 1) (by omega) (by omega), h1]
        simp [e1]; omega

set_option maxRecDepth 100000 in
set_option maxHeartbeats 1000000 in
theorem walk4 (s : ByteArray) (hm : s.size ≤ maxLen) (w : World) :
    Calls Try.prog 4 #[.string s] w fun e w' => e = .returned (.bool true) ∧ w' = w := by
  have HM : Hid (s.size ≤ maxLen) := hm
  unfold maxLen at hm
  by_cases hbig : 1048576 < s.size
  · have K := bytes12_any s HM.out w
    have hd : decide (s.size ≤ 1048576) = false := decide_eq_false (by omega)
    rw [hd] at K
    have H : Hid (Calls _ _ _ _ _) := K
    clear K hd
    go_enter Try.func4, Try.ntmps4
    go_wp2_with fail
    refine H.out.mono ?_
    rintro e w1 ⟨rfl, rfl⟩
    go_wp2
    go_ret
    exact ⟨rfl, rfl⟩
  have hs : s.size ≤ 1048576 := by omega
  have hsz : decide ((1048576 : Int) < (s.size : Int)) = false := decide_eq_false (by omega)
  have K := bytes12_any s HM.out w
  have hd : decide (s.size ≤ 1048576) = true := decide_eq_true hs
  rw [hd] at K
  have H : Hid (Calls _ _ _ _ _) := K
  have HA : Hid _ := agree s
  have K2 := zzscan_any s hs w
  have H2 : Hid (Calls _ _ _ _ _) := K2
  clear K K2 hd hbig HM
  go_enter Try.func4, Try.ntmps4
  go_wp2_with fail
  refine H.out.mono ?_
  rintro e w1 ⟨rfl, rfl⟩
  go_upto_region 6 with fail
  go_cut [29] from 15 (fun s29 wc => s29 = .bool (isNeg s) ∧ w1 = wc)
  case first =>
    by_cases h0 : 0 < s.size
    · have h0z : decide ((0 : Int) < (s.size : Int)) = true := decide_eq_true (by omega)
      have h0n : decide (0 < s.size) = true := decide_eq_true (by omega)
      have hi := bt_of_lt h0
      have hn : isNeg s = decide (bt s 0 = 45) := by unfold isNeg; simp [h0]
      by_cases h45 : bt s 0 = 45
      · rw [h45] at hi
        go_wp2
        go_meet
        exact ⟨by rw [hn, h45]; rfl, rfl⟩
      · have hz : ((bt s 0 : Int) == 45) = false := by simp; omega
        go_wp2
        go_meet
        exact ⟨by rw [hn, decide_eq_false h45], rfl⟩
    · have h0z : decide ((0 : Int) < (s.size : Int)) = false := decide_eq_false (by omega)
      have h0n : decide (0 < s.size) = false := decide_eq_false (by omega)
      go_wp2
      go_meet
      exact ⟨by simp [isNeg, h0], rfl⟩
  case rest =>
    obtain ⟨rfl, rfl⟩ := hcut
    go_upto_if 29 with fail
    go_cut [3, 29] from 15 (fun s3 _ wc => s3 = .string (body s) ∧ w1 = wc)
    case first =>
      cases hn : isNeg s with
      | true =>
        have hsz : 0 < s.size := (of_decide_eq_true hn).1
        have hsz1 : 1 ≤ s.size := hsz
        go_wp2
        go_meet
        exact ⟨by unfold body; rw [if_pos hn], rfl⟩
      | false =>
        go_wp2
        go_meet
        exact ⟨by unfold body; rw [if_neg (by rw [hn]; simp)], rfl⟩
    case rest =>
      obtain ⟨rfl, rfl⟩ := hcut
      have hts : (body s).size ≤ 1048576 := by
        unfold body
        split
        · rw [ByteArray.size_extract]; omega
        · exact hs
      generalize hT : body s = t at hts HA ⊢
      clear hT
      go_upto_region 8 with fail
      go_cut [4] from 15 (fun s4 wc => s4 = .bool (want t) ∧ w1 = wc)
      case first =>
        by_cases h0 : 0 < t.size
        · have h0z : decide ((0 : Int) < (t.size : Int)) = true := decide_eq_true (by omega)
          have h0n : decide (0 < t.size) = true := decide_eq_true (by omega)
          have hi := bt_of_lt h0
          have hb := bt_lt t 0
          have hw : want t = (isDig (bt t 0) && isDig (bt t (t.size - 1))) := by unfold want; rw [h0n]; rfl
          have HW : Hid _ := hw
          clear hw
          obtain ⟨m, hm⟩ : ∃ m, t.size - 1 = m := ⟨_, rfl⟩
          have hml : m < t.size := by omega
          have hmz : IntKind.i64.wrap ((t.size : Int) - 1) = (m : Int) := by rw [IntKind.wrap_i64]; omega
          have hi2 := bt_of_lt hml
          have hb2 := bt_lt t m
          rw [hm] at HW
          clear hm
          generalize bt t 0 = b at hi hb HW
          generalize bt t m = c at hi2 hb2 HW
          go_wp2_with fail
          refine (isDig_any b hb _).mono ?_
          rintro e w2 ⟨rfl, rfl⟩
          cases hdb : isDig b with
          | false =>
            go_wp2
            go_meet
            exact ⟨by rw [HW.out, hdb]; rfl, rfl⟩
          | true =>
            go_wp2_with fail
            refine (isDig_any c hb2 _).mono ?_
            rintro e w3 ⟨rfl, rfl⟩
            go_wp2
            go_meet
            exact ⟨by rw [HW.out, hdb]; rfl, rfl⟩
        · have h0z : decide ((0 : Int) < (t.size : Int)) = false := decide_eq_false (by omega)
          have h0n : decide (0 < t.size) = false := decide_eq_false (by omega)
          go_wp2
          go_meet
          exact ⟨by unfold want; rw [h0n]; rfl, rfl⟩
      case rest =>
        obtain ⟨rfl, rfl⟩ := hcut
        go_wp2_with fail
        go_loopg [4, 5, 6, 7, 8, 9] t.size (fun gk s4 s5 s6 s7 s8 _ wr => ∃ (k : Nat) (g : G), k ≤ t.size ∧ gk = t.size - k ∧ s4 = .bool (want t && g.ok) ∧ s5 = .int .i64 (g.nd : Int) ∧ s6 = .int .i64 (g.dots : Int) ∧ s7 = .int .i64 (g.dot : Int) ∧ s8 = .int .i64 (k : Int) ∧ gAt t k = g ∧ wr = w1)
        case atStart => exact ⟨0, _, Nat.zero_le _, rfl, by simp [gAt], rfl, rfl, rfl, rfl, rfl, rfl⟩
        case round =>
          obtain ⟨k, g, hk, rfl, rfl, rfl, rfl, rfl, rfl, hG, rfl⟩ := hrel
          have hgl := gAt_le t k
          have hdot := gAt_dot t k
          rw [hG] at hgl hdot
          obtain ⟨nd, dots, dot, ok⟩ := g
          simp only at hgl hdot
          obtain ⟨g1, g2, g3⟩ := hgl
          by_cases hlt : k < t.size
          · have hbi := bt_of_lt hlt
            have hkz : (k : Int) < (t.size : Int) := by omega
            have hb256 := bt_lt t k
            have hnx : gAt t (k + 1) = G.step ⟨nd, dots, dot, ok⟩ k (bt t k) := by rw [← hG]; rfl
            generalize bt t k = b at hbi hb256 hnx
            have HG : Hid _ := hnx
            clear hnx hG hdot
            go_wp2_with fail
            refine (isDig_any b hb256 _).mono ?_
            rintro e w2 ⟨rfl, rfl⟩
            cases hdb : isDig b with
            | true =>
              go_wp2
              go_roundg (t.size - (k + 1))
              case rel => exact ⟨k + 1, ⟨nd + 1, dots, dot, ok⟩, by omega, rfl, rfl, by go_num, rfl, rfl, by go_num, by rw [HG.out]; unfold G.step; rw [if_pos hdb], rfl⟩
              case measure => omega
            | false =>
              by_cases h46 : b = 46
              · subst h46
                go_wp2
                go_roundg (t.size - (k + 1))
                case rel => exact ⟨k + 1, ⟨nd, dots + 1, k, ok⟩, by omega, rfl, rfl, rfl, by go_num, rfl, by go_num, by rw [HG.out]; unfold G.step; rw [if_neg (by rw [hdb]; simp), if_pos rfl], rfl⟩
                case measure => omega
              · have hq : ((b : Int) == 46) = false := by simp; omega
                go_wp2
                go_roundg (t.size - (k + 1))
                case rel => exact ⟨k + 1, ⟨nd, dots, dot, false⟩, by omega, rfl, by simp, rfl, rfl, rfl, by go_num, by rw [HG.out]; unfold G.step; rw [if_neg (by rw [hdb]; simp), if_neg h46], rfl⟩
                case measure => omega
          · obtain rfl : k = t.size := by omega
            have hwant : wantOK t = (want t && ok && decide (dots ≤ 1)) := by unfold wantOK; rw [hG]
            rw [hG] at HA
            have HW : Hid _ := hwant
            clear hwant hG
            go_upto_if 67 with fail
            go_cut [4, 67] from 48 (fun s4 _ wc => s4 = .bool (wantOK t) ∧ wr = wc)
            case first =>
              by_cases hd1 : 1 < dots
              · have hd1z : decide ((1 : Int) < (dots : Int)) = true := decide_eq_true (by omega)
                go_wp2
                go_meet
                exact ⟨by rw [HW.out, decide_eq_false (show ¬ dots ≤ 1 by omega)]; simp, rfl⟩
              · have hd1z : decide ((1 : Int) < (dots : Int)) = false := decide_eq_false (by omega)
                go_wp2
                go_meet
                exact ⟨by rw [HW.out, decide_eq_true (show dots ≤ 1 by omega)]; simp, rfl⟩
            case rest =>
              obtain ⟨rfl, rfl⟩ := hcut
              rcases HA.out with ⟨a1, a2⟩ | ⟨a1, st, a2, a3, a4⟩
              · have hv : scanVal s = .tuple #[.int .i64 0, .int .i32 0, .int .i64 0, .bool false] := by unfold scanVal; rw [a2]
                rw [hv] at H2
                clear HA HW a2 hv
                go_wp2_with fail
                refine H2.out.mono ?_
                rintro e w3 ⟨rfl, rfl⟩
                go_wp2
                go_ret
                exact ⟨rfl, rfl⟩
              · have hv : scanVal s = st.val (isNeg s) := by unfold scanVal; rw [a2]
                unfold Sc.val at hv
                rw [hv] at H2
                simp only at a3 a4
                rw [a3] at H2
                have ha1 : st.a ≤ 1048576 := by rw [a4]; split <;> omega
                clear HA HW a2 hv a3
                generalize st.a = x at ha1 a4 H2
                generalize (if isNeg s = true then -(st.c : Int) else (st.c : Int)) = y at H2
                by_cases hd1 : dots = 1
                · rw [if_pos hd1] at a4
                  have hx : (t.size : Int) - (dot : Int) - 1 = (x : Int) := by have := hdot (by omega); omega
                  have hx2 : (t.size : Int) = (x : Int) + (dot : Int) + 1 := by omega
                  have hbe : (-(x : Int) == -((x : Int) + (dot : Int) + 1 - (dot : Int) - 1)) = true := by rw [beq_iff_eq]; omega
                  subst hd1
                  clear a4 hdot hx
                  go_wp2_with fail
                  refine H2.out.mono ?_
                  rintro e w3 ⟨rfl, rfl⟩
                  go_wp2
                  go_ret
                  exact ⟨rfl, rfl⟩
                · rw [if_neg hd1] at a4
                  subst a4
                  have hdz : ((dots : Int) == 1) = false := by simp; omega
                  go_wp2_with fail
                  refine H2.out.mono ?_
                  rintro e w3 ⟨rfl, rfl⟩
                  go_wp2
                  go_ret
                  exact ⟨rfl, rfl⟩
end Go.Proofs.Qxb6001416a

import Derived.Test.Qxb6001416aRows
import Derived.WalkKit
import Derived.Deep.QuietTactic
import Derived.BigQuiet
import Derived.WalkSpells
import Derived.Deep.RegionWith
import Derived.Deep.AppendLies
import Derived.Deep.CutBlock
import Derived.Deep.DeepCutAuto
import Derived.Deep.DeepMust
import Derived.Deep.DrawnRows
import Derived.Deep.OwnRows
import Derived.Deep.RegionHeld3
import Derived.Laws.CopyOwn
import Derived.Lib.SliceRun
namespace Go.Proofs.Qxb6001416a
open Go.RowKit

/-- scanDecimal's state: the point met, digits, digits behind the point, the coefficient. -/
structure Sc where
  p : Bool
  d : Nat
  a : Nat
  c : Nat

def Sc.start : Sc := ⟨false, 0, 0, 0⟩

/-- One byte. -/
def Sc.step (st : Sc) (b : Nat) : Option Sc :=
  if b = 46 ∧ st.p = false ∧ 0 < st.d then some { st with p := true }
  else if b < 48 ∨ 57 < b then none
  else some ⟨st.p, st.d + 1, if st.p then st.a + 1 else st.a, if st.d + 1 ≤ 18 then st.c * 10 + (b - 48) else st.c⟩

def Sc.run (st : Sc) : List Nat → Option Sc
  | [] => some st
  | b :: l => match st.step b with
    | some st' => st'.run l
    | none => none

theorem Sc.run_append (st : Sc) (l m : List Nat) : st.run (l ++ m) = match st.run l with | some st' => st'.run m | none => none := by
  induction l generalizing st with
  | nil => rfl
  | cons b l ih =>
    simp only [List.cons_append, Sc.run]
    cases st.step b with
    | none => rfl
    | some st' => exact ih st'

/-- What the state keeps to, n bytes read. -/
structure Sc.Good (st : Sc) (n : Nat) : Prop where
  a : st.a ≤ st.d
  d : st.d ≤ n
  c : st.c < 10 ^ (min st.d 18)
theorem Sc.Good.start : Sc.start.Good 0 := ⟨Nat.le_refl _, Nat.le_refl _, by decide⟩
theorem Sc.Good.step {st st' : Sc} {n b : Nat} (h : st.Good n) (hs : st.step b = some st') : st'.Good (n + 1) := by
  obtain ⟨h1, h2, h3⟩ := h
  unfold Sc.step at hs
  split at hs
  · cases hs
    exact ⟨h1, by show st.d ≤ n + 1; omega, h3⟩
  · split at hs
    · cases hs
    · rename_i hb
      cases hs
      refine ⟨?_, ?_, ?_⟩
      · show (if st.p then st.a + 1 else st.a) ≤ st.d + 1
        split <;> omega
      · show st.d + 1 ≤ n + 1; omega
      · show (if st.d + 1 ≤ 18 then st.c * 10 + (b - 48) else st.c) < 10 ^ (min (st.d + 1) 18)
        split
        · rename_i hd
          rw [Nat.min_eq_left hd, Nat.pow_succ]
          rw [Nat.min_eq_left (by omega)] at h3
          omega
        · rw [Nat.min_eq_right (by omega)]
          rw [Nat.min_eq_right (by omega)] at h3
          exact h3
theorem Sc.Good.small {st : Sc} {n : Nat} (h : st.Good n) (hd : st.d + 1 ≤ 18) : st.c < 100000000000000000 :=
  Nat.lt_of_lt_of_le h.c (Nat.le_trans (Nat.pow_le_pow_right (by decide) (show min st.d 18 ≤ 17 by omega)) (by decide))
theorem Sc.Good.big {st : Sc} {n : Nat} (h : st.Good n) : st.c < 1000000000000000000 :=
  Nat.lt_of_lt_of_le h.c (Nat.le_trans (Nat.pow_le_pow_right (by decide) (show min st.d 18 ≤ 18 by omega)) (by decide))
theorem Sc.step_point {st : Sc} {b : Nat} (h : b = 46 ∧ st.p = false ∧ 0 < st.d) : st.step b = some { st with p := true } := by
  unfold Sc.step; rw [if_pos h]
theorem Sc.step_bad {st : Sc} {b : Nat} (h : ¬ (b = 46 ∧ st.p = false ∧ 0 < st.d)) (hb : b < 48 ∨ 57 < b) : st.step b = none := by
  unfold Sc.step; rw [if_neg h, if_pos hb]
theorem Sc.step_digit {st : Sc} {b : Nat} (hb : ¬ (b < 48 ∨ 57 < b)) : st.step b = some ⟨st.p, st.d + 1, if st.p then st.a + 1 else st.a, if st.d + 1 ≤ 18 then st.c * 10 + (b - 48) else st.c⟩ := by
  unfold Sc.step; rw [if_neg (by omega), if_neg hb]

/-- A string's byte. -/
def bt (s : ByteArray) (i : Nat) : Nat := if h : i < s.size then s[i].toNat else 0
/-- A string's bytes. -/
def bts (s : ByteArray) : List Nat := s.data.toList.map UInt8.toNat
theorem bts_length (s : ByteArray) : (bts s).length = s.size := by unfold bts; rw [List.length_map]; rfl
theorem bt_of_lt {s : ByteArray} {i : Nat} (h : i < s.size) : s[i].toNat = bt s i := by unfold bt; rw [dif_pos h]
theorem bt_lt (s : ByteArray) (i : Nat) : bt s i < 256 := by
  unfold bt
  split
  · exact UInt8.toNat_lt _
  · omega
theorem bts_getElem {s : ByteArray} {i : Nat} (h : i < s.size) : (bts s)[i]? = some (bt s i) := by
  rw [← bt_of_lt h]
  unfold bts
  rw [List.getElem?_map, List.getElem?_eq_getElem (show i < s.data.toList.length from h)]
  rfl
theorem bts_take_succ {s : ByteArray} {i : Nat} (h : i < s.size) : (bts s).take (i + 1) = (bts s).take i ++ [bt s i] := by
  rw [List.take_add_one, bts_getElem h]; rfl

/-- The loop, k bytes read. -/
structure ScanR (t : ByteArray) (k : Nat) (st : Sc) : Prop where
  run : Sc.start.run ((bts t).take k) = some st
  good : st.Good k
theorem ScanR.next {t : ByteArray} {k : Nat} {st st' : Sc} (h : ScanR t k st) (hk : k < t.size) (hs : st.step (bt t k) = some st') : ScanR t (k + 1) st' := by
  refine ⟨?_, h.good.step hs⟩
  rw [bts_take_succ hk, Sc.run_append, h.run]
  simp only [Sc.run, hs]
theorem ScanR.bad {t : ByteArray} {k : Nat} {st : Sc} (h : ScanR t k st) (hk : k < t.size) (hs : st.step (bt t k) = none) : Sc.start.run (bts t) = none := by
  have e : bts t = (bts t).take (k + 1) ++ (bts t).drop (k + 1) := (List.take_append_drop _ _).symm
  rw [e, Sc.run_append, bts_take_succ hk, Sc.run_append, h.run]
  simp only [Sc.run, hs]
theorem ScanR.all {t : ByteArray} {st : Sc} (h : ScanR t t.size st) : Sc.start.run (bts t) = some st := by
  have := h.run
  rwa [← bts_length, List.take_length] at this

def isNeg (s : ByteArray) : Bool := decide (0 < s.size ∧ bt s 0 = 45)
def body (s : ByteArray) : ByteArray := if isNeg s = true then s.extract 1 s.size else s

/-- scanDecimal's last word on the state. -/
def Sc.ok (st : Sc) : Bool := !(decide (st.d = 0) || (st.p && decide (st.a = 0)))
def scanP (s : ByteArray) : Option Sc := match Sc.start.run (bts (body s)) with
  | some st => if st.ok = true then some st else none
  | none => none
def Sc.val (st : Sc) (n : Bool) : Value := .tuple #[.int .i64 (if n = true then -(st.c : Int) else st.c), .int .i32 (-(st.a : Int)), .int .i64 st.d, .bool true]
def scanVal (s : ByteArray) : Value := match scanP s with
  | some st => st.val (isNeg s)
  | none => .tuple #[.int .i64 0, .int .i32 0, .int .i64 0, .bool false]

theorem results_tmp4 {fn : Func} {t u v x : Tmp} (h : fn.results = #[.tmp t, .tmp u, .tmp v, .tmp x]) (tmps : Array Value) (P : Program) (w : World) :
    (results fn tmps).run P w = .ok (.tuple #[tmps.getD t undef, tmps.getD u undef, tmps.getD v undef, tmps.getD x undef]) w := by
  simp [results, h]

set_option maxRecDepth 100000 in
set_option maxHeartbeats 1000000 in
theorem scan_any (s : ByteArray) (hs : s.size ≤ 1048576) (w : World) :
    Calls Try.prog 24 #[.string s] w fun e w' => e = .returned (scanVal s) ∧ w' = w := by
  go_enter Try.func24, Try.ntmps24
  go_upto_region 1 with fail
  go_cut [6] from 11 (fun s6 wc => s6 = .bool (isNeg s) ∧ w = wc)
  case first =>
    by_cases h0 : 0 < s.size
    · have h0z : decide ((0 : Int) < (s.size : Int)) = true := decide_eq_true (by omega)
      have h0n : decide (0 < s.size) = true := decide_eq_true (by omega)
      have hi := bt_of_lt h0
      have hn : isNeg s = decide (bt s 0 = 45) := by unfold isNeg; simp [h0]
      by_cases h45 : bt s 0 = 45
      · rw [h45] at hi
        go_wp2
        go_meet
        exact ⟨by rw [hn, h45]; rfl, rfl⟩
      · have hz : ((bt s 0 : Int) == 45) = false := by simp; omega
        go_wp2
        go_meet
        exact ⟨by rw [hn, decide_eq_false h45], rfl⟩
    · have h0z : decide ((0 : Int) < (s.size : Int)) = false := decide_eq_false (by omega)
      have h0n : decide (0 < s.size) = false := decide_eq_false (by omega)
      go_wp2
      go_meet
      exact ⟨by simp [isNeg, h0], rfl⟩
  case rest =>
    obtain ⟨rfl, rfl⟩ := hcut
    go_upto_if 19 with fail
    go_cut [0, 6] from 11 (fun s0 s6 wc => s0 = .string (body s) ∧ s6 = .bool (isNeg s) ∧ w = wc)
    case first =>
      cases hn : isNeg s with
      | true =>
        have hsz : 0 < s.size := (of_decide_eq_true hn).1
        have hsz1 : 1 ≤ s.size := hsz
        go_wp2
        go_meet
        exact ⟨by unfold body; rw [if_pos hn], by rw [hn], rfl⟩
      | false =>
        go_wp2
        go_meet
        exact ⟨by unfold body; rw [if_neg (by rw [hn]; simp)], by rw [hn], rfl⟩
    case rest =>
      obtain ⟨rfl, rfl, rfl⟩ := hcut
      have hts : (body s).size ≤ 1048576 := by
        unfold body
        split
        · rw [ByteArray.size_extract]; omega
        · exact hs
      generalize hT : body s = t at hts ⊢
      generalize hNG : isNeg s = ng
      have HT : Hid (body s = t ∧ isNeg s = ng) := ⟨hT, hNG⟩
      clear hT hNG
      go_wp2_with fail
      go_loopg [2, 4, 7, 8, 9, 10] t.size (fun gk c d p a i _ wr => ∃ (k : Nat) (st : Sc), k ≤ t.size ∧ gk = t.size - k ∧ c = .int .i64 (st.c : Int) ∧ d = .int .i64 (st.d : Int) ∧ p = .bool st.p ∧ a = .int .i64 (st.a : Int) ∧ i = .int .i64 (k : Int) ∧ ScanR t k st ∧ wr = w)
      case atStart => exact ⟨0, Sc.start, Nat.zero_le _, rfl, rfl, rfl, rfl, rfl, rfl, ⟨rfl, Sc.Good.start⟩, rfl⟩
      case round =>
        obtain ⟨k, st, hk, rfl, rfl, rfl, rfl, rfl, rfl, hR, rfl⟩ := hrel
        have ga := hR.good.a
        have gd := hR.good.d
        have gc := hR.good.big
        by_cases hlt : k < t.size
        · have hbi := bt_of_lt hlt
          have hkz : (k : Int) < (t.size : Int) := by omega
          have hb256 := bt_lt t k
          obtain ⟨b, hb⟩ : ∃ b, bt t k = b := ⟨_, rfl⟩
          rw [hb] at hbi hb256
          have HB : Hid (bt t k = b) := hb
          clear hb
          obtain ⟨p, d, a, c⟩ := st
          simp only at ga gd gc
          by_cases hpt : b = 46 ∧ p = false ∧ 0 < d
          · obtain ⟨rfl, rfl, hd0⟩ := hpt
            have hdz : decide ((0 : Int) < (d : Int)) = true := decide_eq_true (by omega)
            go_wp2
            go_roundg (t.size - (k + 1))
            case rel => exact ⟨k + 1, ⟨true, d, a, c⟩, by omega, rfl, rfl, rfl, rfl, rfl, by go_num, hR.next hlt (by rw [HB.out]; exact Sc.step_point ⟨rfl, rfl, hd0⟩), rfl⟩
            case measure => omega
          by_cases hbad : b < 48 ∨ 57 < b
          · have hfin : scanVal s = .tuple #[.int .i64 0, .int .i32 0, .int .i64 0, .bool false] := by
              unfold scanVal scanP
              rw [HT.out.1, hR.bad hlt (by rw [HB.out]; exact Sc.step_bad hpt hbad)]
            clear HT HB hR
            by_cases h46 : b = 46
            · subst h46
              cases p with
              | true =>
                go_wp2
                exact bodyPost_ret (results_tmp4 rfl _ _ _) rfl ⟨by first | rfl | (rw [hfin]; rfl), rfl⟩
              | false =>
                obtain rfl : d = 0 := by
                  have : ¬ 0 < d := fun h => hpt ⟨rfl, rfl, h⟩
                  omega
                go_wp2
                exact bodyPost_ret (results_tmp4 rfl _ _ _) rfl ⟨by first | rfl | (rw [hfin]; rfl), rfl⟩
            · have hq : ((b : Int) == 46) = false := by simp; omega
              rcases hbad with h1 | h1
              · have hq1 : decide ((b : Int) < 48) = true := decide_eq_true (by omega)
                go_wp2
                exact bodyPost_ret (results_tmp4 rfl _ _ _) rfl ⟨by first | rfl | (rw [hfin]; rfl), rfl⟩
              · have hq1 : decide ((b : Int) < 48) = false := decide_eq_false (by omega)
                have hq2 : decide ((57 : Int) < (b : Int)) = true := decide_eq_true (by omega)
                go_wp2
                exact bodyPost_ret (results_tmp4 rfl _ _ _) rfl ⟨by first | rfl | (rw [hfin]; rfl), rfl⟩
          · have hnx := hR.next hlt (by rw [HB.out]; exact Sc.step_digit hbad)
            have hsm := hR.good.small
            have hq : ((b : Int) == 46) = false := by simp; omega
            have hq1 : decide ((b : Int) < 48) = false := decide_eq_false (by omega)
            have hq2 : decide ((57 : Int) < (b : Int)) = false := decide_eq_false (by omega)
            simp only at hsm hnx
            by_cases h18 : d + 1 ≤ 18
            · have h18z : decide ((d : Int) + 1 ≤ 18) = true := decide_eq_true (by omega)
              have hc := hsm h18
              rw [if_pos h18] at hnx
              clear hsm gc hpt
              obtain ⟨v, hv⟩ : ∃ v, b = 48 + v := ⟨b - 48, by omega⟩
              cases p with
              | true =>
                go_wp2
                go_roundg (t.size - (k + 1))
                case rel => exact ⟨k + 1, _, by omega, rfl, by go_num, by go_num, rfl, by go_num, by go_num, hnx, rfl⟩
                case measure => omega
              | false =>
                go_wp2
                go_roundg (t.size - (k + 1))
                case rel => exact ⟨k + 1, _, by omega, rfl, by go_num, by go_num, rfl, by go_num, by go_num, hnx, rfl⟩
                case measure => omega
            · have h18z : decide ((d : Int) + 1 ≤ 18) = false := decide_eq_false (by omega)
              rw [if_neg h18] at hnx
              clear hsm hpt
              cases p with
              | true =>
                go_wp2
                go_roundg (t.size - (k + 1))
                case rel => exact ⟨k + 1, _, by omega, rfl, rfl, by go_num, rfl, by go_num, by go_num, hnx, rfl⟩
                case measure => omega
              | false =>
                go_wp2
                go_roundg (t.size - (k + 1))
                case rel => exact ⟨k + 1, _, by omega, rfl, rfl, by go_num, rfl, by go_num, by go_num, hnx, rfl⟩
                case measure => omega
        · obtain rfl : k = t.size := by omega
          have hrun := hR.all
          obtain ⟨p, d, a, c⟩ := st
          simp only at ga gd gc
          by_cases hok : (⟨p, d, a, c⟩ : Sc).ok = true
          · have hfin : scanVal s = (⟨p, d, a, c⟩ : Sc).val ng := by
              unfold scanVal scanP
              rw [HT.out.1, hrun]
              simp only [hok, if_true]
              rw [HT.out.2]
            unfold Sc.val at hfin
            simp only at hfin
            have hd : d ≠ 0 := by rintro rfl; simp [Sc.ok] at hok
            have hdz : ((d : Int) == 0) = false := by simp; omega
            have ha : p = true → a ≠ 0 := by rintro rfl rfl; simp [Sc.ok] at hok
            have ha1 : a ≤ 1048576 := by omega
            cases p with
            | true =>
              have haz : ((a : Int) == 0) = false := by have := ha rfl; simp; omega
              cases ng with
              | true =>
                go_wp2
                exact bodyPost_ret (results_tmp4 rfl _ _ _) rfl ⟨by first | rfl | (rw [hfin]; rfl), rfl⟩
              | false =>
                go_wp2
                exact bodyPost_ret (results_tmp4 rfl _ _ _) rfl ⟨by first | rfl | (rw [hfin]; rfl), rfl⟩
            | false =>
              cases ng with
              | true =>
                go_wp2
                exact bodyPost_ret (results_tmp4 rfl _ _ _) rfl ⟨by first | rfl | (rw [hfin]; rfl), rfl⟩
              | false =>
                go_wp2
                exact bodyPost_ret (results_tmp4 rfl _ _ _) rfl ⟨by first | rfl | (rw [hfin]; rfl), rfl⟩
          · have hfin : scanVal s = .tuple #[.int .i64 0, .int .i32 0, .int .i64 0, .bool false] := by
              unfold scanVal scanP
              rw [HT.out.1, hrun]
              simp only [hok]
              rfl
            by_cases hd : d = 0
            · subst hd
              go_wp2
              exact bodyPost_ret (results_tmp4 rfl _ _ _) rfl ⟨by first | rfl | (rw [hfin]; rfl), rfl⟩
            · have hdz : ((d : Int) == 0) = false := by simp; omega
              have hpa : p = true ∧ a = 0 := by
                cases p with
                | false => simp [Sc.ok, hd] at hok
                | true => simp [Sc.ok, hd] at hok; exact ⟨rfl, hok⟩
              obtain ⟨rfl, rfl⟩ := hpa
              go_wp2
              exact bodyPost_ret (results_tmp4 rfl _ _ _) rfl ⟨by first | rfl | (rw [hfin]; rfl), rfl⟩
end Go.Proofs.Qxb6001416a

import Derived.Test.Qxb6001416aS6c
namespace Go.Proofs.Qxb6001416a
open Go.RowKit Go.Deep

set_option maxRecDepth 100000 in
set_option maxHeartbeats 1000000 in
theorem walk6 (s : ByteArray) (a : Option Addr) (n c : Nat) (Z : Nat → Nat) (x y : Int) (w : World) (hs : s.size ≤ maxLen) (hn : n ≤ maxLen) (hA : BytesAt w a n Z) (hnil : a = none → n = 0) (hy : (Lit.int .i64 y).wf = true) :
    Calls Try.prog 6 #[.string s, .slice a n c, .int .i64 x, .int .i64 y] w fun e w' => e = .returned (.bool true) ∧ Below w.heap.size w w' := by
  have K := bytes15_any s a n c x y hs hn w
  unfold maxLen at hs hn
  have HC : Hid (BytesAt w a n Z ∧ (a = none → n = 0) ∧ lineAt y 0 = y) := ⟨hA, hnil, lineAt_zero hy⟩
  clear hA hnil hy
  by_cases hbig : s.size + n ≤ 1048576
  case neg =>
    rw [decide_eq_false hbig] at K
    have H : Hid (Calls _ _ _ _ _) := K
    clear K
    go_enter Try.func6, Try.ntmps6
    go_wp2_with fail
    refine H.out.mono ?_
    rintro e w1 ⟨rfl, rfl⟩
    go_wp2
    go_ret
    exact ⟨rfl, Below.refl _ _⟩
  rw [decide_eq_true hbig] at K
  have H : Hid (Calls _ _ _ _ _) := K
  clear K
  have t1 : decide ((1048576 : Int) < (s.size : Int)) = false := decide_eq_false (by omega)
  have t2 : decide ((1048576 : Int) < (n : Int)) = false := decide_eq_false (by omega)
  have t3 : decide ((1048576 : Int) < (s.size : Int) + (n : Int)) = false := decide_eq_false (by omega)
  by_cases hx : x < 0
  · have hxd : decide (x < 0) = true := decide_eq_true hx
    go_enter Try.func6, Try.ntmps6
    go_wp2_with fail
    refine H.out.mono ?_
    rintro e w1 ⟨rfl, rfl⟩
    go_wp2
    go_ret
    exact ⟨rfl, Below.refl _ _⟩
  obtain ⟨st, rfl⟩ : ∃ st : Nat, x = (st : Int) := ⟨x.toNat, by omega⟩
  have hn20 : n ≤ 1048576 := by omega
  have hxd : decide ((st : Int) < 0) = false := decide_eq_false (by omega)
  clear hx
  go_enter Try.func6, Try.ntmps6
  go_wp2_with fail
  refine H.out.mono ?_
  rintro e w1 ⟨rfl, rfl⟩
  go_wp2_with fail
  refine (clone_any a n c Z w1 hn20 HC.out.1 HC.out.2.1).mono ?_
  rintro e w2 ⟨a2, rfl, hB2, hb2⟩
  go_wp2_with fail
  refine (zzpos_any s a2 n st y Z w2 hn20 HC.out.2.2 hB2).mono ?_
  rintro e w3 ⟨k, hP, rfl, hb3⟩
  have hB3 := hB2.below hb3
  have hbb := hb2.trans (hb3.mono hb2.size)
  obtain ⟨p, hp⟩ : ∃ p, st + k = p := ⟨_, rfl⟩
  obtain ⟨ln, hln⟩ : ∃ ln, lineAt y (nls Z st k) = ln := ⟨_, rfl⟩
  rw [hp, hln]
  have HP : Hid (PosP n st k Z ∧ st + k = p ∧ lineAt y (nls Z st k) = ln) := ⟨hP, hp, hln⟩
  clear hB2 hb2 hb3 H hP hp hln
  go_upto_region 9 with fail
  have hb4 : Below w3.heap.size w3 (w3.alloc (.cells #[.string s, .int .i64 ln] 33)) := (Below.refl _ _).alloc (Nat.le_refl _) _
  have hX := heap_alloc_new w3 (.cells #[.string s, .int .i64 ln] 33)
  have hB4 := hB3.below hb4
  have hbb4 := hbb.trans (hb4.mono hbb.size)
  generalize w3.alloc (.cells #[.string s, .int .i64 ln] 33) = w4 at hb4 hX hB4 hbb4 ⊢
  generalize w3.heap.size = X at hX ⊢
  have x0 := cell_blk6 (o := 0) hX rfl
  have x1 := cell_blk6 (o := 1) hX rfl
  clear hb4 hB3 hbb hX
  by_cases hge : n ≤ st
  · have hgz : decide ((n : Int) ≤ (st : Int)) = true := decide_eq_true (by omega)
    obtain ⟨h1, h2, h3⟩ := HP.out
    obtain rfl : k = 0 := by rcases h1.le with h | h <;> omega
    obtain rfl : st = p := by omega
    rw [show nls Z st 0 = 0 from rfl, HC.out.2.2] at h3
    subst h3
    clear h1 h2
    go_wp2
    go_ret
    exact ⟨rfl, hbb4⟩
  · have hgz : decide ((n : Int) ≤ (st : Int)) = false := decide_eq_false (by omega)
    obtain ⟨h1, h2, h3⟩ := HP.out
    have hpn : p ≤ n := by rcases h1.le with h | h <;> omega
    have hsp : st ≤ p := by omega
    have d1 : decide ((p : Int) < (st : Int)) = false := decide_eq_false (by omega)
    have d3 : decide (p < st) = false := decide_eq_false (by omega)
    have d4 : decide (n < p) = false := decide_eq_false (by omega)
    have d2 : decide ((n : Int) < (p : Int)) = false := decide_eq_false (by omega)
    clear h1 h2 h3
    go_wp2
    clear x0 x1
    go_loopg [12, 13, 14] k (fun gk s12 s13 _ wr => ∃ j i : Nat, st + j = i ∧ j ≤ k ∧ gk = k - j ∧ s12 = .int .i64 (nls Z st j : Int) ∧ s13 = .int .i64 (i : Int) ∧ wr = w4)
    case atStart => exact ⟨0, st, rfl, Nat.zero_le _, rfl, rfl, rfl, rfl⟩
    case round =>
      obtain ⟨j, i, hji, hjk, rfl, rfl, rfl, rfl⟩ := hrel
      obtain ⟨h1, h2, h3⟩ := HP.out
      have hnl := nls_le Z st j
      by_cases hlt : j < k
      · have hip : (i : Int) < (p : Int) := by omega
        have hin : i < n := by omega
        have hinz : (i : Int) < (n : Int) := by omega
        have hsep := h1.sep j hlt
        rw [hji] at hsep
        rcases hB4 with h0 | ⟨g, rfl, hg, hc⟩
        · omega
        have hci := hc i hin
        have hsuc : nls Z st (j + 1) = nls Z st j + if Z i = 10 then 1 else 0 := by rw [← hji]; rfl
        generalize Z i = b at hci hsep hsuc
        have HS : Hid _ := hsuc
        clear h1 h2 h3 hc hsuc
        go_wp2_with fail
        refine (isSep_any b _).mono ?_
        rintro e w5 ⟨rfl, rfl⟩
        by_cases h10 : b = 10
        · subst h10
          go_wp2
          go_roundg (k - (j + 1))
          case rel => exact ⟨j + 1, i + 1, by omega, by omega, rfl, by rw [HS.out]; simp, by go_num, rfl⟩
          case measure => omega
        · have z1 : ((b : Int) == 10) = false := by simp; omega
          go_wp2
          go_roundg (k - (j + 1))
          case rel => exact ⟨j + 1, i + 1, by omega, by omega, rfl, by rw [HS.out, if_neg h10]; rfl, by go_num, rfl⟩
          case measure => omega
      · obtain rfl : j = k := by omega
        obtain rfl : i = p := by omega
        have hlz : decide ((i : Int) < (i : Int)) = false := decide_eq_false (by omega)
        unfold lineAt at h3
        have hfin : (ln == wrap64 (y + (nls Z st j : Int))) = true := by rw [h3]; simp
        have hstop := h1.stop
        rw [hji] at hstop
        generalize nls Z st j = cnt at hnl hfin
        clear h1 h2 h3
        by_cases hin : i < n
        · have hinz : (i : Int) < (n : Int) := by omega
          have hind : decide ((i : Int) < (n : Int)) = true := decide_eq_true hinz
          have hns := hstop hin
          rcases hB4 with h0 | ⟨g, rfl, hg, hc⟩
          · omega
          have hci := hc i hin
          generalize Z i = b at hci hns
          clear hc hstop
          go_wp2_with fail
          refine (isSep_any b _).mono ?_
          rintro e w5 ⟨rfl, rfl⟩
          rw [hns]
          go_wp2
          go_ret
          exact ⟨rfl, hbb4⟩
        · have hind : decide ((i : Int) < (n : Int)) = false := decide_eq_false (by omega)
          clear hstop
          go_wp2
          go_ret
          exact ⟨rfl, hbb4⟩
end Go.Proofs.Qxb6001416a

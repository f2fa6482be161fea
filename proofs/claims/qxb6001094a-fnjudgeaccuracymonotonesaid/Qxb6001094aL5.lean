import Derived.Test.Qxb6001094aJ8
import Derived.Test.Qxb6001094aJ2
namespace Go.Proofs.Qxb6001094a
open Go.RowKit Go.Deep

theorem Jd.dl_get (j : Jd) {q n : Nat} (hq : q < n) (hc : j.cor q = false) : (j.dl n)[(j.dl q).length]? = some q := by
  induction n with
  | zero => omega
  | succ n ih =>
    by_cases e : q = n
    · subst e
      rw [j.dl_succ_no hc]; simp
    · have := ih (by omega)
      cases hn : j.cor n with
      | true => rw [j.dl_succ_yes hn]; exact this
      | false =>
        rw [j.dl_succ_no hn]
        have hlt := (List.getElem?_eq_some_iff.1 this).1
        rw [List.getElem?_append_left hlt]; exact this

/-- What came in, both laws over the judge: the two slices. -/
structure In2 (w : World) (a0 : Option Addr) (n : Nat) (a3 : Option Addr) (m : Nat) (A : Nat → Option Addr) (L C : Nat → Nat) (Cr : Nat → Int) (S : Nat → Nat → Int) : Prop where
  hn : n ≤ maxLen
  hm : m ≤ maxLen
  hL : ∀ r, r < m → L r ≤ maxLen
  hI : IntsAt w a0 n Cr
  nil0 : a0 = none → n = 0
  hH : HeadsAt w a3 m A L C
  rows : ∀ r, r < m → IntsAt w (A r) (L r) (S r)
  nil3 : a3 = none → m = 0

theorem In2.grid {w : World} {a0 : Option Addr} {n : Nat} {a3 : Option Addr} {m : Nat} {A : Nat → Option Addr} {L C : Nat → Nat} {Cr : Nat → Int} {S : Nat → Nat → Int} (h : In2 w a0 n a3 m A L C Cr S) (hL : ∀ r, r < m → L r = m) : GridAt w a3 m S := by
  rcases h.hH with e | ⟨b, o, ha, hc⟩
  · exact .inl e
  · exact .inr ⟨b, o, A, C, ha, fun r hr => by rw [hc r hr, hL r hr], fun r hr => by have := h.rows r hr; rwa [hL r hr] at this⟩

theorem GridAt.below {w w' : World} {n : Nat} {a : Option Addr} {Z : Nat → Nat → Int} (h : GridAt w a n Z) (hb : Below w.heap.size w w') : GridAt w' a n Z := by
  rcases h with h | ⟨b, o, A, C, ha, hr, hi⟩
  · exact .inl h
  · exact .inr ⟨b, o, A, C, ha, fun r h => cell_below hb (hr r h), fun r h => (hi r h).below hb (Nat.le_refl _)⟩

theorem GridIn.mono {w : World} {lo lo' n : Nat} {a : Option Addr} {Z : Nat → Nat → Int} (h : GridIn w lo a n Z) (hl : lo' ≤ lo) : GridIn w lo' a n Z := by
  rcases h with h | ⟨g, G, hg, ha, hr, hi⟩
  · exact .inl h
  · exact .inr ⟨g, G, by omega, ha, hr, fun r hr => (hi r hr).mono hl⟩

theorem Dets.at {j : Jd} {w : World} {g cap : Nat} {P : Nat → Option Nat} (h : Dets j w g cap P) (t : Nat) (ht : t < (j.dl j.n).length) :
    w.cell? ⟨g, t * 3, none⟩ = some (.int .i64 (((j.dl j.n)[t] : Nat) + 1)) ∧ w.cell? ⟨g, t * 3 + 1, none⟩ = some (.int .i64 (j.Cr (j.dl j.n)[t])) ∧ w.cell? ⟨g, t * 3 + 2, none⟩ = some (ptrV (P (j.dl j.n)[t])) := by
  have hc := cellsD_get j (j.dl j.n) P t ht
  refine ⟨?_, ?_, ?_⟩
  · rw [h.own.cellAt _ (by omega)]; exact hc.1
  · rw [h.own.cellAt _ (by omega)]; exact hc.2.1
  · rw [h.own.cellAt _ (by omega)]; exact hc.2.2

theorem dl_at {j : Jd} {i : Nat} (hi : i < j.n) (hc : j.cor i = false) : ∃ h : (j.dl i).length < (j.dl j.n).length, (j.dl j.n)[(j.dl i).length] = i := by
  obtain ⟨h, e⟩ := List.getElem?_eq_some_iff.1 (j.dl_get hi hc)
  exact ⟨h, e⟩

def allTo (j : Jd) (t : Nat) : Bool := ((j.dl j.n).take t).all fun q => (j.det q).isSome
theorem allTo_succ (j : Jd) (t : Nat) (ht : t < (j.dl j.n).length) : allTo j (t + 1) = (allTo j t && (j.det (j.dl j.n)[t]).isSome) := by
  rw [allTo, List.take_succ_eq_append_getElem ht, List.all_append]; simp only [allTo, List.all_cons, List.all_nil, Bool.and_true]
theorem allTo_end (j : Jd) : allTo j (j.dl j.n).length = j.complete j.n := by
  simp [allTo, Jd.complete]

set_option maxRecDepth 100000 in
set_option maxHeartbeats 1000000 in
theorem law5 (j : Jd) (a0 : Option Addr) (c0 : Nat) (a3 : Option Addr) (m c3 : Nat) (A : Nat → Option Addr) (L C : Nat → Nat) (w : World)
    (hin : In2 w a0 j.n a3 m A L C j.Cr j.S) :
    Calls Try.prog 5 #[.slice a0 j.n c0, .int .i64 j.fin, .int .i64 j.af, .slice a3 m c3, .bool j.acc] w fun e w' => e = .returned (.bool true) ∧ Below w.heap.size w w' := by
  go_enter Try.func5, Try.ntmps5
  go_wp2_with fail
  refine (bytes5_any a0 j.n c0 j.fin j.af a3 m c3 j.acc A L C w hin.hn hin.hm hin.hL hin.hH).mono ?_
  rintro e w0 ⟨⟨b, rfl, -⟩, rfl⟩
  cases b with
  | false =>
    go_wp2
    go_ret
    exact ⟨rfl, Below.refl _ _⟩
  | true =>
  go_wp2_with fail
  refine (fits_any a0 j.n c0 a3 m c3 A L C _ hin.hn hin.hm hin.hL hin.hH).mono ?_
  rintro e w0 ⟨⟨b, rfl, hb1⟩, rfl⟩
  cases b with
  | false =>
    go_wp2
    go_ret
    exact ⟨rfl, Below.refl _ _⟩
  | true =>
  have hn := (hb1 rfl).1
  clear hb1
  go_wp2_with fail
  refine (shaped_any a0 j.n c0 a3 m c3 A L C _ hin.hn hin.hm hin.hH).mono ?_
  rintro e w0 ⟨⟨b, rfl, hb2⟩, rfl⟩
  cases b with
  | false =>
    go_wp2
    go_ret
    exact ⟨rfl, Below.refl _ _⟩
  | true =>
  obtain ⟨hmn, hLn⟩ := hb2 rfl
  subst hmn
  have hg := hin.grid hLn
  go_wp2_with fail
  refine (cloneInts_any a0 j.n c0 j.Cr _ hn hin.hI hin.nil0).mono ?_
  rintro e w1 ⟨a0', rfl, hi1, hbw1⟩
  have hg1 := hg.below hbw1
  go_wp2_with fail
  refine (cloneRows_any a3 j.n c3 j.S _ hn hg1 hin.nil3).mono ?_
  rintro e w2 ⟨a3', rfl, hg2, hbw2⟩
  have hi2 : IntsIn w2 0 a0' j.n j.Cr := (hi1.below hbw2).mono (Nat.zero_le _)
  have hg3 : GridIn w2 0 a3' j.n j.S := hg2.mono (Nat.zero_le _)
  clear hin hg hg1 hg2 hi1
  go_wp2_with fail
  refine (judge_any j a0' a3' j.n j.n 0 w2 hn hi2 hg3).mono ?_
  rintro e w3 ⟨g, cap, P, rfl, hD, hbw3⟩
  have hb3 : Below w0.heap.size w0 w3 := (hbw1.trans (hbw2.mono hbw1.size)).trans (hbw3.mono (Nat.le_trans hbw1.size hbw2.size))
  have hi3 := hi2.below hbw3
  clear hi2 hg3 hbw1 hbw2 hbw3
  go_wp2
  have hbv : Below w3.heap.size w3 (w3.alloc (.cells #[.bool (j.complete j.n), .bool (j.ea j.n 0)] 45)) := (Below.refl _ _).alloc (Nat.le_refl _) _
  have hDv := hD.below hbv
  have hiv := hi3.below hbv
  have hV : (w3.alloc (.cells #[.bool (j.complete j.n), .bool (j.ea j.n 0)] 45)).heap[w3.heap.size]? = some (.cells #[.bool (j.complete j.n), .bool (j.ea j.n 0)] 45) := heap_alloc_new _ _
  have hb4 := hb3.trans (hbv.mono hb3.size)
  clear hbv hD hi3 hb3
  generalize w3.alloc (.cells #[.bool (j.complete j.n), .bool (j.ea j.n 0)] 45) = wv at hDv hiv hV hb4 ⊢
  generalize w3.heap.size = vb at hV ⊢
  go_loopg [13, 14] j.n (fun gk k q wr => ∃ i : Nat, i ≤ j.n ∧ gk = j.n - i ∧ k = .int .i64 ((j.dl i).length : Nat) ∧ q = .int .i64 ((i : Int) + 1) ∧ Below wv.heap.size wv wr)
  case atStart => exact ⟨0, Nat.zero_le _, rfl, rfl, rfl, Below.refl _ _⟩
  case round =>
    obtain ⟨i, hi, rfl, rfl, rfl, hbr⟩ := hrel
    have hDr := hDv.below hbr
    have hir := hiv.below hbr
    by_cases hlt : i < j.n
    · have hltb : decide ((i : Int) + 1 ≤ (j.n : Int)) = true := by simp; omega
      rcases hir with e | ⟨gC, _, rfl, hrC⟩
      · omega
      have fC := hrC.cell hlt
      cases hcor : j.cor i with
      | true =>
        have hcb : (j.Cr i == j.fin) = true := hcor
        go_wp2
        go_roundg (j.n - (i + 1))
        case rel => exact ⟨i + 1, by omega, rfl, by rw [j.dl_succ_yes hcor], by go_num, hbr⟩
        case measure => omega
      | false =>
        have hcb : (j.Cr i == j.fin) = false := hcor
        obtain ⟨hlen, hel⟩ := dl_at hlt hcor
        have hat := hDr.at _ hlen
        rw [hel] at hat
        obtain ⟨f0, f1, -⟩ := hat
        have hle := j.dl_length_le j.n
        have hlenz : ((j.dl i).length : Int) < ((j.dl j.n).length : Int) := by omega
        have n1 : (((i : Int) + 1) != ((i : Int) + 1)) = false := by simp
        have n2 : (j.Cr i != j.Cr i) = false := by simp
        have wi : IntKind.i64.wrap ((i : Int) + 1 - 1) = i := by rw [IntKind.wrap_i64]; omega
        have iz : (i : Int) < (j.n : Int) := by omega
        have HEL : Hid ((j.dl j.n)[(j.dl i).length] = i) := hel
        clear hel
        go_wp2
        go_quiet (fail)
        go_wp2
        go_roundg (j.n - (i + 1))
        case rel => exact ⟨i + 1, by omega, rfl, by rw [j.dl_succ_no hcor]; simp, by go_num, hbr.trans (Drawn.below ⟨_, rfl⟩ _)⟩
        case measure => omega
    · obtain rfl : i = j.n := by omega
      have n3 : (((j.dl j.n).length : Int) != ((j.dl j.n).length : Int)) = false := by simp
      have hle := j.dl_length_le j.n
      clear hDr hir
      obtain ⟨w5, rfl⟩ : ∃ w5 : World, w5 = wr := ⟨_, rfl⟩
      go_wp2
      go_loopg [15, 17, 91] (j.dl j.n).length (fun gk al _ q wr => ∃ t : Nat, t ≤ (j.dl j.n).length ∧ gk = (j.dl j.n).length - t ∧ al = .bool (allTo j t) ∧ q = .int .i64 (t : Int) ∧ Below wv.heap.size wv wr)
      case atStart => exact ⟨0, Nat.zero_le _, rfl, rfl, rfl, hbr⟩
      case round =>
        obtain ⟨t, ht, rfl, rfl, rfl, hbt⟩ := hrel
        by_cases htl : t < (j.dl j.n).length
        · have hDt := hDv.below hbt
          obtain ⟨f0, f1, f2⟩ := hDt.at t htl
          have hp := hDt.ptr _ (List.getElem_mem htl)
          have hsucc := allTo_succ j t htl
          generalize (j.dl j.n)[t] = q at f0 f1 f2 hp hsucc
          have HS : Hid (allTo j (t + 1) = (allTo j t && (j.det q).isSome)) := hsucc
          clear hsucc
          cases hdet : j.det q with
          | none =>
            rw [hdet] at hp HS
            rw [show P q = none from hp, show ptrV none = .pointer none from rfl] at f2
            clear hdet hp
            go_wp2
            go_roundg ((j.dl j.n).length - (t + 1))
            case rel => exact ⟨t + 1, by omega, rfl, by rw [HS.out]; simp, by go_num, hbt.alloc hbt.size _⟩
            case measure => omega
          | some v =>
            rw [hdet] at hp HS
            obtain ⟨gp, hgp, -⟩ := hp
            rw [hgp, show ptrV (some gp) = .pointer (some ⟨gp, 0, none⟩) from rfl] at f2
            clear hdet hgp
            go_wp2
            go_roundg ((j.dl j.n).length - (t + 1))
            case rel => exact ⟨t + 1, by omega, rfl, by rw [HS.out]; simp, by go_num, hbt.alloc hbt.size _⟩
            case measure => omega
        · obtain rfl : t = (j.dl j.n).length := by omega
          rw [allTo_end]
          have fV := cell_blk (o := 0) ((hbt.block _ (lt_of_block hV)).trans hV) rfl
          go_wp2
          go_ret
          exact ⟨rfl, hb4.trans (hbt.mono hb4.size)⟩
end Go.Proofs.Qxb6001094a

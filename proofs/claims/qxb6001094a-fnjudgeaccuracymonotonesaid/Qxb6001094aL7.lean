import Derived.Test.Qxb6001094aJ9
namespace Go.Proofs.Qxb6001094a
open Go.RowKit Go.Deep

/-! ### The plain law: what hangs on accurateFrom and on accurate, and what does not -/
def Jd.at (j : Jd) (af : Int) (acc : Bool) : Jd := ⟨j.n, j.Cr, j.fin, af, j.S, acc⟩
theorem Jd.ba_at (j : Jd) (af : Int) (acc : Bool) (q k : Nat) : (j.at af acc).ba q k = j.ba q k := by
  induction k with
  | zero => rfl
  | succ k ih =>
    show (if j.cor k then max ((j.at af acc).ba q k) (j.S k q) else (j.at af acc).ba q k) = _
    rw [ih]; rfl
theorem Jd.det_at (j : Jd) (af : Int) (acc : Bool) (q : Nat) : (j.at af acc).det q = j.det q := by
  show (if j.okTo q j.n then some ((j.at af acc).ba q j.n) else none) = _
  rw [j.ba_at]; rfl
theorem Jd.complete_at (j : Jd) (af : Int) (acc : Bool) : (j.at af acc).complete j.n = j.complete j.n := by
  show ((j.dl j.n).all fun q => ((j.at af acc).det q).isSome) = _
  simp only [Jd.complete, j.det_at]
theorem Jd.ea_at (j : Jd) (af : Int) (acc : Bool) : (j.at af acc).ea j.n 0 = (acc && !(j.wrongTo j.n && decide (af < j.fin))) := by
  show (acc && !((j.wrongTo j.n || j.rowWrong j.n 0) && decide (af < j.fin))) = _
  rw [j.rowWrong_zero]; simp
theorem Dets.of_at {j : Jd} {af : Int} {acc : Bool} {w : World} {g cap : Nat} {P : Nat → Option Nat} (h : Dets (j.at af acc) w g cap P) : Dets j w g cap P :=
  ⟨h.own, fun q hq => by have := h.ptr q hq; rwa [j.det_at] at this⟩

def eaF (wrong acc : Bool) (af fin : Int) : Bool := acc && !(wrong && decide (af < fin))
theorem ea_mono (wrong acc : Bool) (a1 a2 fin : Int) (h : a1 ≤ a2) (h1 : eaF wrong acc a1 fin = true) : eaF wrong acc a2 fin = true := by
  unfold eaF at *
  cases acc <;> cases wrong <;> simp_all <;> omega
theorem ea_past (wrong acc : Bool) (a2 fin : Int) (h : fin ≤ a2) : eaF wrong acc a2 fin = acc := by
  have : decide (a2 < fin) = false := by simp; omega
  rw [eaF, this]; simp
theorem ea_right (acc : Bool) (a2 fin : Int) : eaF false acc a2 fin = acc := by simp [eaF]
theorem ea_none (wrong : Bool) (a2 fin : Int) : eaF wrong false a2 fin = false := by simp [eaF]

theorem judge_at (j : Jd) (af : Int) (acc : Bool) (aC aS : Option Addr) (cC cS lo : Nat) (w : World) (hn : j.n ≤ 131072) (hC : IntsIn w lo aC j.n j.Cr) (hS : GridIn w lo aS j.n j.S) :
    Calls Try.prog 26 #[.slice aC j.n cC, .int .i64 j.fin, .int .i64 af, .slice aS j.n cS, .bool acc] w fun e w' =>
      ∃ g cap P ee, e = .returned (.tuple #[.slice (some ⟨g, 0, none⟩) (j.dl j.n).length cap, .agg #[.bool (j.complete j.n), .bool ee]]) ∧ Hid (ee = eaF (j.wrongTo j.n) acc af j.fin) ∧ Dets j w' g cap P ∧ Below w.heap.size w w' := by
  refine (judge_any (j.at af acc) aC aS cC cS lo w hn hC hS).mono ?_
  rintro e w' ⟨g, cap, P, rfl, hD, hb⟩
  refine ⟨g, cap, P, _, ?_, j.ea_at af acc, hD.of_at, hb⟩
  have e1 := j.complete_at af acc
  show Ending.returned (.tuple #[.slice (some ⟨g, 0, none⟩) (j.dl j.n).length cap, .agg #[.bool ((j.at af acc).complete j.n), .bool ((j.at af acc).ea j.n 0)]]) = _
  rw [e1]

/-- What stands behind the three calls of conclude. -/
structure Three (j : Jd) (w : World) (b1 b2 b3 : Nat) (e1 e2 : Bool) (g1 c1 g2 c2 g3 c3 : Nat) (P1 P2 P3 : Nat → Option Nat) (a0 a3 : Option Addr) : Prop where
  v1 : w.heap[b1]? = some (.cells #[.bool (j.complete j.n), .bool e1] 45)
  v2 : w.heap[b2]? = some (.cells #[.bool (j.complete j.n), .bool e2] 45)
  v3 : w.heap[b3]? = some (.cells #[.bool (j.complete j.n), .bool false] 45)
  d1 : Dets j w g1 c1 P1
  d2 : Dets j w g2 c2 P2
  d3 : Dets j w g3 c3 P3
  hC : IntsIn w 0 a0 j.n j.Cr
  hS : GridIn w 0 a3 j.n j.S

def wrongAt (j : Jd) (p q : Nat) : Bool := j.wrongTo p || j.rowWrong p q
theorem wrongAt_zero (j : Jd) (p : Nat) : wrongAt j p 0 = j.wrongTo p := by simp [wrongAt, j.rowWrong_zero]
theorem wrongAt_row (j : Jd) (p : Nat) : wrongAt j p j.n = j.wrongTo (p + 1) := by rw [wrongAt, j.wrongTo_succ]
theorem wrongAt_same (j : Jd) (p q : Nat) (h : (j.cor p && j.cor q && decide (0 ≤ j.S p q)) = false) : wrongAt j p (q + 1) = wrongAt j p q := by
  simp only [wrongAt, j.rowWrong_succ, h, Bool.or_false]
theorem wrongAt_true (j : Jd) (p q : Nat) (h : (j.cor p && j.cor q && decide (0 ≤ j.S p q)) = true) : wrongAt j p (q + 1) = true := by
  simp only [wrongAt, j.rowWrong_succ, h, Bool.or_true]

theorem three_js {j : Jd} {w : World} {a0 a3 : Option Addr} (hC : IntsIn w 0 a0 j.n j.Cr) (hS : GridIn w 0 a3 j.n j.S) (h0 : 0 < j.n) :
    ∃ (gC gS : Nat) (G : Nat → Nat), a0 = some ⟨gC, 0, none⟩ ∧ a3 = some ⟨gS, 0, none⟩ ∧ (∀ i, i < j.n → w.cell? ⟨gC, i, none⟩ = some (.int .i64 (j.Cr i))) ∧
      (∀ r, r < j.n → w.cell? ⟨gS, r, none⟩ = some (.slice (some ⟨G r, 0, none⟩) j.n j.n)) ∧ (∀ r, r < j.n → ∀ i, i < j.n → w.cell? ⟨G r, i, none⟩ = some (.int .i64 (j.S r i))) := by
  rcases hC with e | ⟨gC, _, rfl, hrC⟩
  · omega
  rcases hS with e | ⟨gS, G, _, rfl, hrS, hG⟩
  · omega
  have hG' : ∀ r, ∃ g', r < j.n → G r = some ⟨g', 0, none⟩ ∧ w.rowIs g' 3 j.n (fun i => .int .i64 (j.S r i)) := by
    intro r
    by_cases hr : r < j.n
    · rcases hG r hr with e | ⟨g', _, e, hr'⟩
      · omega
      · exact ⟨g', fun _ => ⟨e, hr'⟩⟩
    · exact ⟨0, fun h => absurd h hr⟩
  exact ⟨gC, gS, fun r => (hG' r).choose, rfl, rfl, fun i hi => hrC.cell hi, fun r hr => (hrS.cell hr).trans (congrArg (fun a => some (Value.slice a j.n j.n)) ((hG' r).choose_spec hr).1), fun r hr i hi => ((hG' r).choose_spec hr).2.cell hi⟩

set_option maxRecDepth 100000 in
set_option maxHeartbeats 1000000 in
theorem law7 (j : Jd) (x1 x2 : Int) (a0 : Option Addr) (c0 : Nat) (a3 : Option Addr) (m c3 : Nat) (A : Nat → Option Addr) (L C : Nat → Nat) (w : World)
    (hin : In2 w a0 j.n a3 m A L C j.Cr j.S) :
    Calls Try.prog 7 #[.slice a0 j.n c0, .int .i64 j.fin, .int .i64 x1, .int .i64 x2, .slice a3 m c3, .bool j.acc] w fun e w' => e = .returned (.bool true) ∧ Below w.heap.size w w' := by
  go_enter Try.func7, Try.ntmps7
  go_wp2_with fail
  refine (bytes7_any a0 j.n c0 j.fin x1 x2 a3 m c3 j.acc A L C w hin.hn hin.hm hin.hL hin.hH).mono ?_
  rintro e w0 ⟨⟨b, rfl, -⟩, rfl⟩
  cases b with
  | false =>
    go_wp2
    go_ret
    exact ⟨rfl, Below.refl _ _⟩
  | true =>
  go_wp2_with fail
  refine (fits_any a0 j.n c0 a3 m c3 A L C _ hin.hn hin.hm hin.hL hin.hH).mono ?_
  rintro e w0 ⟨⟨b, rfl, hb1⟩, rfl⟩
  cases b with
  | false =>
    go_wp2
    go_ret
    exact ⟨rfl, Below.refl _ _⟩
  | true =>
  have hn := (hb1 rfl).1
  clear hb1
  go_wp2_with fail
  refine (shaped_any a0 j.n c0 a3 m c3 A L C _ hin.hn hin.hm hin.hH).mono ?_
  rintro e w0 ⟨⟨b, rfl, hb2⟩, rfl⟩
  cases b with
  | false =>
    go_wp2
    go_ret
    exact ⟨rfl, Below.refl _ _⟩
  | true =>
  obtain ⟨hmn, hLn⟩ := hb2 rfl
  subst hmn
  have hg := hin.grid hLn
  go_wp2_with fail
  refine (cloneInts_any a0 j.n c0 j.Cr _ hn hin.hI hin.nil0).mono ?_
  rintro e w1 ⟨a0', rfl, hi1, hbw1⟩
  have hg1 := hg.below hbw1
  go_wp2_with fail
  refine (cloneRows_any a3 j.n c3 j.S _ hn hg1 hin.nil3).mono ?_
  rintro e w2 ⟨a3', rfl, hg2, hbw2⟩
  have hi2 : IntsIn w2 0 a0' j.n j.Cr := (hi1.below hbw2).mono (Nat.zero_le _)
  have hg3 : GridIn w2 0 a3' j.n j.S := hg2.mono (Nat.zero_le _)
  have hb2 : Below w0.heap.size w0 w2 := hbw1.trans (hbw2.mono hbw1.size)
  clear hin hg hg1 hg2 hi1 hbw1 hbw2 hLn
  go_upto_if 45 with fail
  go_cut [2, 3] from 23 (fun s2 s3 wc => ∃ y1 y2 : Int, s2 = .int .i64 y1 ∧ s3 = .int .i64 y2 ∧ y1 ≤ y2 ∧ w2 = wc)
  case first =>
    by_cases hx : x2 < x1
    · go_wp2
      go_meet
      exact ⟨x2, x1, rfl, rfl, by omega, rfl⟩
    · go_wp2
      go_meet
      exact ⟨x1, x2, rfl, rfl, by omega, rfl⟩
  case rest =>
  obtain ⟨y1, y2, rfl, rfl, hy, rfl⟩ := hcut
  go_wp2_with fail
  refine (judge_at j y1 j.acc a0' a3' j.n j.n 0 w2 hn hi2 hg3).mono ?_
  rintro e w3 ⟨g1, cp1, P1, e1, rfl, he1, hD1, hbw3⟩
  have hi3 := hi2.below hbw3
  have hs3 := hg3.below hbw3
  have hb3 := hb2.trans (hbw3.mono hb2.size)
  clear hi2 hb2 hbw3 hg3
  go_wp2_with fail
  have hb4 : Below w3.heap.size w3 (w3.alloc (.cells #[.bool (j.complete j.n), .bool e1] 45)) := (Below.refl _ _).alloc (Nat.le_refl _) _
  have hV1 : (w3.alloc (.cells #[.bool (j.complete j.n), .bool e1] 45)).heap[w3.heap.size]? = some (.cells #[.bool (j.complete j.n), .bool e1] 45) := heap_alloc_new _ _
  have hi4 := hi3.below hb4
  have hs4 := hs3.below hb4
  have hD14 := hD1.below hb4
  have hbb4 := hb3.trans (hb4.mono hb3.size)
  generalize w3.alloc (.cells #[.bool (j.complete j.n), .bool e1] 45) = w4 at hb4 hV1 hi4 hs4 hD14 hbb4 ⊢
  generalize w3.heap.size = b1 at hV1 ⊢
  clear hb4 hi3 hs3 hD1 hb3
  refine (judge_at j y2 j.acc a0' a3' j.n j.n 0 w4 hn hi4 hs4).mono ?_
  rintro e w5 ⟨g2, cp2, P2, e2, rfl, he2, hD2, hbw5⟩
  have hi5 := hi4.below hbw5
  have hs5 := hs4.below hbw5
  have hD15 := hD14.below hbw5
  have hb5 := hbb4.trans (hbw5.mono hbb4.size)
  have hV15 := (hbw5.block _ (lt_of_block hV1)).trans hV1
  clear hi4 hs4 hD14 hbb4 hbw5 hV1
  go_wp2_with fail
  have hb6 : Below w5.heap.size w5 (w5.alloc (.cells #[.bool (j.complete j.n), .bool e2] 45)) := (Below.refl _ _).alloc (Nat.le_refl _) _
  have hV2 : (w5.alloc (.cells #[.bool (j.complete j.n), .bool e2] 45)).heap[w5.heap.size]? = some (.cells #[.bool (j.complete j.n), .bool e2] 45) := heap_alloc_new _ _
  have hi6 := hi5.below hb6
  have hs6 := hs5.below hb6
  have hD16 := hD15.below hb6
  have hD26 := hD2.below hb6
  have hV16 := (hb6.block _ (lt_of_block hV15)).trans hV15
  have hbb6 := hb5.trans (hb6.mono hb5.size)
  generalize w5.alloc (.cells #[.bool (j.complete j.n), .bool e2] 45) = w6 at hb6 hV2 hi6 hs6 hD16 hD26 hV16 hbb6 ⊢
  generalize w5.heap.size = b2 at hV2 ⊢
  clear hb6 hi5 hs5 hD15 hD2 hb5 hV15
  refine (judge_at j y1 false a0' a3' j.n j.n 0 w6 hn hi6 hs6).mono ?_
  rintro e w7 ⟨g3, cp3, P3, e3, rfl, he3, hD3, hbw7⟩
  obtain rfl : e3 = false := he3.out.trans (ea_none _ _ _)
  have hi7 := hi6.below hbw7
  have hs7 := hs6.below hbw7
  have hD17 := hD16.below hbw7
  have hD27 := hD26.below hbw7
  have hb7 := hbb6.trans (hbw7.mono hbb6.size)
  have hV17 := (hbw7.block _ (lt_of_block hV16)).trans hV16
  have hV27 := (hbw7.block _ (lt_of_block hV2)).trans hV2
  clear hi6 hs6 hD16 hD26 hbb6 hbw7 hV16 hV2 he3
  go_upto_region 14 with fail
  have hb8 : Below w7.heap.size w7 (w7.alloc (.cells #[.bool (j.complete j.n), .bool false] 45)) := (Below.refl _ _).alloc (Nat.le_refl _) _
  have hV3 : (w7.alloc (.cells #[.bool (j.complete j.n), .bool false] 45)).heap[w7.heap.size]? = some (.cells #[.bool (j.complete j.n), .bool false] 45) := heap_alloc_new _ _
  have hT : Three j (w7.alloc (.cells #[.bool (j.complete j.n), .bool false] 45)) b1 b2 w7.heap.size e1 e2 g1 cp1 g2 cp2 g3 cp3 P1 P2 P3 a0' a3' :=
    ⟨(hb8.block _ (lt_of_block hV17)).trans hV17, (hb8.block _ (lt_of_block hV27)).trans hV27, hV3, hD17.below hb8, hD27.below hb8, hD3.below hb8, hi7.below hb8, hs7.below hb8⟩
  have hbb8 := hb7.trans (hb8.mono hb7.size)
  generalize w7.alloc (.cells #[.bool (j.complete j.n), .bool false] 45) = w8 at hT hbb8 hb8 hV3 ⊢
  generalize w7.heap.size = b3 at hT hV3 ⊢
  clear hb8 hi7 hs7 hD17 hD27 hD3 hb7 hV17 hV27 hV3
  have v10 := cell_blk (o := 0) hT.v1 rfl
  have v11 := cell_blk (o := 1) hT.v1 rfl
  have v20 := cell_blk (o := 0) hT.v2 rfl
  have v21 := cell_blk (o := 1) hT.v2 rfl
  have v30 := cell_blk (o := 0) hT.v3 rfl
  have v31 := cell_blk (o := 1) hT.v3 rfl
  go_cut [80] from 23 (fun s80 wc => s80 = .bool false ∧ w8 = wc)
  case first =>
    cases e1 with
    | false =>
      go_wp2
      go_meet
      exact ⟨rfl, rfl⟩
    | true =>
      obtain rfl : e2 = true := he2.out.trans (ea_mono _ _ y1 y2 _ hy he1.out.symm)
      go_wp2
      go_meet
      exact ⟨rfl, rfl⟩
  case rest =>
  obtain ⟨rfl, rfl⟩ := hcut
  go_upto_region 18 with fail
  go_cut [91] from 23 (fun s91 wc => s91 = .bool false ∧ w8 = wc)
  case first =>
    by_cases hfa : j.fin ≤ y2
    · have hfb : decide (j.fin ≤ y2) = true := decide_eq_true hfa
      obtain rfl : e2 = j.acc := he2.out.trans (ea_past _ _ _ _ hfa)
      have nb : (j.acc != j.acc) = false := by simp
      go_wp2
      go_meet
      exact ⟨rfl, rfl⟩
    · have hfb : decide (j.fin ≤ y2) = false := decide_eq_false hfa
      go_wp2
      go_meet
      exact ⟨rfl, rfl⟩
  case rest =>
  obtain ⟨rfl, rfl⟩ := hcut
  go_wp2
  go_loopg [20, 21, 22] j.n (fun gk s20 s21 _ wr => w8 = wr ∧ ∃ p : Nat, p ≤ j.n ∧ gk = j.n - p ∧ s20 = .bool (j.wrongTo p) ∧ s21 = .int .i64 ((p : Int) + 1))
  case atStart => exact ⟨rfl, 0, Nat.zero_le _, rfl, rfl, rfl⟩
  case round =>
    obtain ⟨rfl, p, hp, rfl, rfl, rfl⟩ := hrel
    by_cases hplt : p < j.n
    · have hpb : decide ((p : Int) + 1 ≤ (j.n : Int)) = true := by simp; omega
      go_wp2
      go_loopg [20, 22] j.n (fun gk s20 s22 wr => w8 = wr ∧ ∃ q : Nat, q ≤ j.n ∧ gk = j.n - q ∧ s20 = .bool (wrongAt j p q) ∧ s22 = .int .i64 ((q : Int) + 1))
      case atStart => exact ⟨rfl, 0, Nat.zero_le _, rfl, by rw [wrongAt_zero], rfl⟩
      case round =>
        obtain ⟨rfl, q, hq, rfl, rfl, rfl⟩ := hrel
        by_cases hqlt : q < j.n
        · have hqb : decide ((q : Int) + 1 ≤ (j.n : Int)) = true := by simp; omega
          obtain ⟨gC, gS, G, rfl, rfl, hCx, hSx, hGx⟩ := three_js hT.hC hT.hS (by omega)
          have fp := hCx p hplt
          have fq := hCx q hqlt
          have fS := hSx p hplt
          have fG := hGx p hplt q hqlt
          clear hCx hSx hGx
          cases hcp : j.cor p with
          | false =>
            have hcpb : (j.Cr p == j.fin) = false := hcp
            go_wp2
            go_roundg (j.n - (q + 1))
            case rel => exact ⟨rfl, q + 1, by omega, rfl, by rw [wrongAt_same j p q (by simp [hcp])], by go_num⟩
            case measure => omega
          | true =>
            have hcpb : (j.Cr p == j.fin) = true := hcp
            cases hcq : j.cor q with
            | false =>
              have hcqb : (j.Cr q == j.fin) = false := hcq
              go_wp2
              go_roundg (j.n - (q + 1))
              case rel => exact ⟨rfl, q + 1, by omega, rfl, by rw [wrongAt_same j p q (by simp [hcq])], by go_num⟩
              case measure => omega
            | true =>
              have hcqb : (j.Cr q == j.fin) = true := hcq
              by_cases hs : 0 ≤ j.S p q
              · have hsd : decide (0 ≤ j.S p q) = true := decide_eq_true hs
                go_wp2
                go_roundg (j.n - (q + 1))
                case rel => exact ⟨rfl, q + 1, by omega, rfl, by rw [wrongAt_true j p q (by simp [hcp, hcq, hs])], by go_num⟩
                case measure => omega
              · have hsd : decide (0 ≤ j.S p q) = false := decide_eq_false hs
                go_wp2
                go_roundg (j.n - (q + 1))
                case rel => exact ⟨rfl, q + 1, by omega, rfl, by rw [wrongAt_same j p q (by simp [hsd])], by go_num⟩
                case measure => omega
        · obtain rfl : q = j.n := by omega
          go_wp2
          go_roundg (j.n - (p + 1))
          case rel => exact ⟨rfl, p + 1, by omega, rfl, by rw [wrongAt_row], by go_num⟩
          case measure => omega
    · obtain rfl : p = j.n := by omega
      go_upto_region 30 with fail
      go_cut [20, 139] from 23 (fun _ s139 wc => s139 = .bool false ∧ w8 = wc)
      case first =>
        cases hw : j.wrongTo j.n with
        | true =>
          go_wp2
          go_meet
          exact ⟨rfl, rfl⟩
        | false =>
          obtain rfl : e1 = j.acc := he1.out.trans (by rw [hw]; exact ea_right _ _ _)
          have nb : (j.acc != j.acc) = false := by simp
          go_wp2
          go_meet
          exact ⟨rfl, rfl⟩
      case rest =>
      obtain ⟨rfl, rfl⟩ := hcut
      have nc : (j.complete j.n != j.complete j.n) = false := by simp
      go_wp2_with fail
      refine (same_any j w8 g1 cp1 g2 cp2 P1 P2 hn hT.d1 hT.d2).mono ?_
      rintro e w9 ⟨rfl, hd9⟩
      go_wp2_with fail
      refine (same_any j w9 g1 cp1 g3 cp3 P1 P3 hn (hT.d1.below (hd9.below _)) (hT.d3.below (hd9.below _))).mono ?_
      rintro e w10 ⟨rfl, hd10⟩
      go_wp2
      go_ret
      exact ⟨rfl, hbb8.trans ((hd9.trans hd10).below _)⟩
end Go.Proofs.Qxb6001094a

import Derived.Test.Qxb6001094aJ6
import Derived.Deep.RegionWith
namespace Go.Proofs.Qxb6001094a
open Go.RowKit Go.Deep

theorem ba_hi {j : Jd} {k p : Nat} (hc : j.cor p = true) (h : j.ba k p < j.S p k) : j.ba k (p + 1) = j.S p k := by
  rw [Jd.ba, if_pos hc]; omega
theorem ba_lo {j : Jd} {k p : Nat} (hc : j.cor p = true) (h : j.S p k ≤ j.ba k p) : j.ba k (p + 1) = j.ba k p := by
  rw [Jd.ba, if_pos hc]; omega


/-- conclude's second part: only the second cell of v turns. -/
structure EaR (j : Jd) (w w1 wp : World) (b : Bool) : Prop where
  ver : wp.heap[w.heap.size + 1]? = some (.cells #[.bool (j.complete j.n), .bool b] 45)
  old : ∀ k, k ≠ w.heap.size + 1 → wp.heap[k]? = w1.heap[k]?
  os : wp.os = w1.os
  tape : wp.tape = w1.tape
  output : wp.output = w1.output
  size : wp.heap.size = w1.heap.size

theorem EaR.start {j : Jd} {w w1 : World} {g cap : Nat} {P : Nat → Option Nat} (h : ConR j w w1 j.n g cap P) : EaR j w w1 w1 (j.ea 0 0) :=
  ⟨by rw [h.ver]; simp [Jd.ea, Jd.wrongTo, Jd.rowWrong], fun _ _ => rfl, rfl, rfl, rfl, rfl⟩
theorem EaR.drewN {j : Jd} {w w1 wp : World} {b : Bool} (h : EaR j w w1 wp b) (m : Nat) : EaR j w w1 (wp.drewN m) b :=
  ⟨h.ver, h.old, h.os, h.tape, h.output, h.size⟩
theorem EaR.put {j : Jd} {w w1 wp : World} {b : Bool} (h : EaR j w w1 wp b) (m : Nat) (b' : Bool) : EaR j w w1 ((wp.drewN m).setCell ⟨w.heap.size + 1, 1, none⟩ (.bool b')) b' := by
  have hv : (wp.drewN m).heap[w.heap.size + 1]? = some (.cells #[.bool (j.complete j.n), .bool b] 45) := h.ver
  refine ⟨?_, ?_, h.os, h.tape, h.output, ?_⟩
  · rw [blk_setCell hv]; simp
  · intro k hk
    rw [Below.heap_setCell _ _ _ _ (by simpa using hk)]; exact h.old k hk
  · simp [h.size]
theorem EaR.bel {j : Jd} {w w1 wp : World} {b : Bool} {g cap k : Nat} {P : Nat → Option Nat} (h : EaR j w w1 wp b) (hR : ConR j w w1 k g cap P) : Below w.heap.size w wp :=
  hR.bel.trans ⟨h.os, h.tape, h.output, by rw [h.size]; exact Nat.le_refl _, fun k hk => h.old k (by omega)⟩
theorem EaR.congr {j : Jd} {w w1 wp : World} {b b' : Bool} (h : EaR j w w1 wp b) (e : b = b') : EaR j w w1 wp b' := e ▸ h

theorem ea_row (j : Jd) (p : Nat) : j.ea p j.n = j.ea (p + 1) 0 := by
  simp [Jd.ea, j.wrongTo_succ, j.rowWrong_zero]
theorem ea_same (j : Jd) (p q : Nat) (h : (j.cor p && j.cor q && decide (0 ≤ j.S p q) && decide (j.af < j.fin)) = false) : j.ea p q = j.ea p (q + 1) := by
  simp only [Jd.ea, j.rowWrong_succ]
  revert h
  cases j.cor p && j.cor q && decide (0 ≤ j.S p q) <;> cases decide (j.af < j.fin) <;> simp
theorem ea_false (j : Jd) (p q : Nat) (h : (j.cor p && j.cor q && decide (0 ≤ j.S p q) && decide (j.af < j.fin)) = true) : false = j.ea p (q + 1) := by
  simp only [Jd.ea, j.rowWrong_succ]
  revert h
  cases j.cor p && j.cor q && decide (0 ≤ j.S p q) <;> cases decide (j.af < j.fin) <;> simp

theorem JS.drewN {j : Jd} {w : World} {J gC cC gS cS : Nat} {G : Nat → Nat} (h : JS j w J gC cC gS cS G) (n : Nat) : JS j (w.drewN n) J gC cC gS cS G := h.below (Drawn.below ⟨n, rfl⟩ _)
theorem correct_quiet (j : Jd) (w : World) (n : Nat) (J gC cC gS cS k : Nat) (G : Nat → Nat) (hn : j.n ≤ 131072) (hk : k < j.n) (hJ : JS j w J gC cC gS cS G) (b : Bool) (h : j.cor k = b) :
    Calls Try.prog 47 #[.pointer (some ⟨J, 0, none⟩), .int .i64 ((k : Int) + 1)] (w.drewN n) fun e w' => e = .returned (.bool b) ∧ ∃ m, w' = w.drewN m :=
  Calls.quiet_of (correct_at j _ J gC cC gS cS k G hn hk (hJ.drewN n) b h)
/-- What conclude leaves. -/
structure ConP (j : Jd) (w w' : World) (g cap : Nat) (P : Nat → Option Nat) : Prop where
  own : w'.ownsRow w.heap.size 50 3 (.slice (some ⟨g, 0, none⟩) (j.dl j.n).length cap) (j.dl j.n).length (cellsD j (j.dl j.n) P)
  ptr : ∀ q ∈ j.dl j.n, PtrOk w' (j.det q) (P q)
  bel : Below w.heap.size w w'

theorem two_set {w : World} {b : Nat} {x y u v : Value} {t : TypeId} (h : w.heap[b]? = some (.cells #[x, y] t)) :
    ((w.setCell ⟨b, 0, none⟩ u).setCell ⟨b, 1, none⟩ v).drew.heap[b]? = some (.cells #[u, v] t) := by
  show ((w.setCell ⟨b, 0, none⟩ u).setCell ⟨b, 1, none⟩ v).heap[b]? = _
  rw [blk_setCell (blk_setCell h u)]; simp
theorem two_set_other {w : World} {b k : Nat} {u v : Value} (h : k ≠ b) :
    ((w.setCell ⟨b, 0, none⟩ u).setCell ⟨b, 1, none⟩ v).drew.heap[k]? = w.heap[k]? := by
  show ((w.setCell ⟨b, 0, none⟩ u).setCell ⟨b, 1, none⟩ v).heap[k]? = _
  rw [Below.heap_setCell _ _ _ _ (by simpa using h), Below.heap_setCell _ _ _ _ (by simpa using h)]

theorem conP_end {j : Jd} {w w1 wp : World} {g cap : Nat} {P : Nat → Option Nat} {b c d : Bool} (hE : EaR j w w1 wp b) (hR : ConR j w w1 j.n g cap P) :
    ConP j w ((wp.setCell ⟨w.heap.size, 0, none⟩ (.bool c)).setCell ⟨w.heap.size, 1, none⟩ (.bool d)).drew g cap P := by
  have hres := (hE.old w.heap.size (by omega)).trans hR.res
  have hoth : ∀ k, k ≠ w.heap.size → k ≠ w.heap.size + 1 → ((wp.setCell ⟨w.heap.size, 0, none⟩ (.bool c)).setCell ⟨w.heap.size, 1, none⟩ (.bool d)).drew.heap[k]? = w1.heap[k]? :=
    fun k h1 h2 => (two_set_other h1).trans (hE.old k h2)
  refine ⟨ownsRow_of_heap hR.own (fun k c hk => ?_), fun q hq => (hR.ptr q hq).of_heap (fun k c hk => ?_), ?_⟩
  · refine hoth k (fun e => ?_) (fun e => ?_)
    · rw [e, hR.res] at hk; simp at hk
    · rw [e, hR.ver] at hk; simp at hk
  · refine hoth k (fun e => ?_) (fun e => ?_)
    · rw [e, hR.res] at hk; simp at hk
    · rw [e, hR.ver] at hk; simp at hk
  · exact (((hE.bel hR).setCell (by simp) _).setCell (by simp) _).drew

set_option maxRecDepth 100000 in
set_option maxHeartbeats 1000000 in
theorem conclude_some (j : Jd) (J gC cC gS cS : Nat) (G : Nat → Nat) (w : World) (hn : j.n ≤ 131072) (h0 : 0 < j.n) (hJ : JS j w J gC cC gS cS G) (c5 : w.cell? ⟨J, 5, none⟩ = some (.bool j.acc)) :
    Calls Try.prog 42 #[.pointer (some ⟨J, 0, none⟩)] w fun e w' => ∃ g cap P, e = .returned (.tuple #[.slice (some ⟨g, 0, none⟩) (j.dl j.n).length cap, .agg #[.bool (j.complete j.n), .bool (j.ea j.n 0)]]) ∧ ConP j w w' g cap P := by
  have hJlt : J < w.heap.size := hJ.lt
  have d5 : ∀ o, (w.alloc o).cell? ⟨J, 5, none⟩ = some (.bool j.acc) := fun o => by rw [((Below.refl w.heap.size w).alloc (Nat.le_refl _) o).cell (p := ⟨J, 5, none⟩) hJlt, c5]
  obtain ⟨i0, hi, hz0, hz1, hz2⟩ := info_parts info50
  have HI : Hid (Try.prog.info? 50 = some i0 ∧ i0.zero = some (.agg #[.int .i64 0, .int .i64 0, .pointer none]) ∧ i0.size = 3 ∧ i0.bytes = 24) := ⟨hi, hz0, hz1, hz2⟩
  clear hi hz0 hz1 hz2
  go_enter Try.func42, Try.ntmps42
  go_wp2
  clear c5 d5
  go_loopg [5, 6] j.n (fun gk v i wr => ∃ (k g cap : Nat) (P : Nat → Option Nat), k ≤ j.n ∧ gk = j.n - k ∧ i = .int .i64 ((k : Int) + 1) ∧ v = .slice (some ⟨g, 0, none⟩) (j.dl k).length cap ∧ ConR j w wr k g cap P)
  case atStart => exact ⟨0, _, 0, _, Nat.zero_le _, rfl, rfl, rfl, ConR.start j w⟩
  case round =>
    obtain ⟨k, g, cap, P, hk, rfl, rfl, rfl, hR⟩ := hrel
    have hJr := hJ.below hR.bel
    have e0 := hJr.c0
    by_cases hlt : k < j.n
    · have hltb : decide ((k : Int) + 1 ≤ (j.n : Int)) = true := by simp; omega
      cases hcor : j.cor k with
      | true =>
        go_wp2_with (go_at_call 47; refine (correct_drawn j _ J gC cC gS cS k G hn hlt hJr true hcor).mono ?_; rintro e w1 ⟨rfl, hd⟩)
        go_roundg (j.n - (k + 1))
        case rel => exact ⟨k + 1, g, cap, P, by omega, rfl, by go_num, by rw [j.dl_succ_yes hcor], (hR.pass hcor).drawn hd⟩
        case measure => omega
      | false =>
        go_upto_block 2 with (go_at_call 47; refine (correct_drawn j _ J gC cC gS cS k G hn hlt hJr false hcor).mono ?_; rintro e w1 ⟨rfl, hd⟩; have f0 := (hJr.below (hd.below _)).c0; have fk := (hJr.below (hd.below _)).hC k hlt)
        have hJ1 := hJr.below (hd.below _)
        have hR1 := hR.drawn hd
        clear hJr hR hd e0 f0 fk
        go_cut [9] from 19 to 78 (fun _ wc => ∃ x, InnerR j w1 wc k x ∧ (x = -1 ∧ j.okTo k j.n = false ∨ x = j.ba k j.n ∧ j.okTo k j.n = true))
        case first =>
          go_wp2_with fail
          go_loopg [9, 10] j.n (fun gk i f wi => ∃ p : Nat, p ≤ j.n ∧ gk = j.n - p ∧ i = .int .i64 ((p : Int) + 1) ∧ j.okTo k p = true ∧ InnerR j w1 wi k (j.ba k p))
          case atStart => exact ⟨0, Nat.zero_le _, rfl, rfl, j.okTo_zero k, InnerR.start j w1 k⟩
          case round =>
            obtain ⟨p, hp, rfl, rfl, hok, hI⟩ := hrel
            have hJi := hJ1.below hI.bel
            have e0 := hJi.c0
            by_cases hplt : p < j.n
            · have hpb : decide ((p : Int) + 1 ≤ (j.n : Int)) = true := by simp; omega
              cases hcp : j.cor p with
              | false =>
                go_wp2_with (go_at_call 47; refine (correct_drawn j _ J gC cC gS cS p G hn hplt hJi false hcp).mono ?_; rintro e w2 ⟨rfl, hd⟩)
                go_roundg (j.n - (p + 1))
                case rel => exact ⟨p + 1, by omega, rfl, by go_num, by rw [j.okTo_succ, hok, hcp]; rfl, by rw [Jd.ba, if_neg (by simp [hcp])]; exact hI.drawn hd⟩
                case measure => omega
              | true =>
                by_cases hneg : j.S p k < 0
                · go_wp2_with (go_at_call 47; refine (correct_drawn j _ J gC cC gS cS p G hn hplt hJi true hcp).mono ?_; rintro e w2 ⟨rfl, hd⟩; have f3 := (hJi.below (hd.below _)).c3; have fS := (hJi.below (hd.below _)).hS p hplt; have fG := (hJi.below (hd.below _)).hG p hplt k hlt; have fY := cell_of_one (hI.drawn hd).y; have fYf := free_of_one (hI.drawn hd).y)
                  go_meet
                  exact ⟨-1, (hI.drawn hd).put (-1), .inl ⟨rfl, j.okTo_bad hplt hcp hneg⟩⟩
                · go_wp2_with (go_at_call 47; refine (correct_drawn j _ J gC cC gS cS p G hn hplt hJi true hcp).mono ?_; rintro e w2 ⟨rfl, hd⟩; have f3 := (hJi.below (hd.below _)).c3; have fS := (hJi.below (hd.below _)).hS p hplt; have fG := (hJi.below (hd.below _)).hG p hplt k hlt; have fY := cell_of_one (hI.drawn hd).y; have fYf := free_of_one (hI.drawn hd).y)
                  · have hh : j.ba k p < j.S p k := by assumption
                    go_roundg (j.n - (p + 1))
                    case rel => exact ⟨p + 1, by omega, rfl, by go_num, by rw [j.okTo_succ, hok, hcp]; simpa using hneg, by rw [ba_hi hcp hh]; exact (hI.drawn hd).put _⟩
                    case measure => omega
                  · have hh : j.S p k ≤ j.ba k p := by assumption
                    go_roundg (j.n - (p + 1))
                    case rel => exact ⟨p + 1, by omega, rfl, by go_num, by rw [j.okTo_succ, hok, hcp]; simpa using hneg, by rw [ba_lo hcp hh]; exact (hI.drawn hd).put _⟩
                    case measure => omega
            · obtain rfl : p = j.n := by omega
              go_wp2
              go_meet
              exact ⟨_, hI, .inr ⟨rfl, hok⟩⟩
        case rest =>
          obtain ⟨x, hI, hx⟩ := hcut
          have fY := cell_of_one hI.y
          go_upto_if 72 with fail
          go_cut [10] from 19 to 78 (fun _ wc => ∃ p, PreApp j w w1 wc k p)
          case first =>
            rcases hx with ⟨rfl, hok⟩ | ⟨rfl, hok⟩
            · have hv := (hI.bel.block _ hR1.vlt).trans hR1.ver
              have v0 := cell_blk (o := 0) hv rfl
              have vf := free_blk hv 0
              have HV : Hid (ConR j w w1 k g cap P) := hR1
              clear hv hR1
              go_wp2
              go_meet
              exact ⟨_, preApp_bad HV.out hcor hI hok⟩
            · have d2 := cell_blk (o := 2) hI.d rfl
              have df := free_blk hI.d 2
              have hnn := j.ba_nonneg k j.n
              go_wp2
              go_meet
              exact ⟨_, preApp_ok hR1 hcor hI hok⟩
          case rest =>
            obtain ⟨pp, hA⟩ := hcut
            clear hI hx fY
            have d0 := cell_blk (o := 0) hA.d rfl
            have d1 := cell_blk (o := 1) hA.d rfl
            have d2 := cell_blk (o := 2) hA.d rfl
            obtain ⟨qq, hqq⟩ : ∃ qq, ptrV pp = .pointer qq := ⟨_, rfl⟩
            have HQ : Hid (ptrV pp = .pointer qq) := hqq
            rw [hqq] at d2
            clear hqq
            have hdl := j.dl_length_le k
            have hsz := hA.bel.size
            go_wp2_with (at_builtin; go_must (refine wpList_append_lies _ rfl (.tmp 75) (.tmp 77) 43 rfl w.heap.size 50 i0 (.agg #[.int .i64 0, .int .i64 0, .pointer none]) 3 24 Try.underlying43 HI.out.1 HI.out.2.1 HI.out.2.2.1 HI.out.2.2.2 rfl (by decide) (.slice (some ⟨g, 0, none⟩) (j.dl k).length cap) (j.dl k).length (cellsD j (j.dl k) P) rfl ((hA.own hR1).alloc _) ⟨wc.heap.size, 0, none⟩ 1 1 [.int .i64 ((k : Int) + 1), .int .i64 (j.Cr k), .pointer qq] rfl rfl (World.news_of_block (heap_alloc_new _ _)) (by simp; exact ⟨rfl, rfl, rfl⟩) (by decide) (by unfold maxLen; omega) (by omega) (by simp; omega) _ rfl ?_); intro g' cap' w3 hown3 hgrow3 _ _)
            rw [← HQ.out] at hown3
            go_roundg (j.n - (k + 1))
            case rel => exact ⟨k + 1, g', cap', _, by omega, rfl, by go_num, by rw [j.dl_succ_no hcor]; simp, hA.done hR1 hcor hown3 hgrow3⟩
            case measure => omega
    · obtain rfl : k = j.n := by omega
      obtain ⟨w1, rfl⟩ : ∃ w1 : World, w1 = wr := ⟨_, rfl⟩
      go_wp2
      go_loopg [11, 12] j.n (fun gk i f wp => ∃ p : Nat, p ≤ j.n ∧ gk = j.n - p ∧ i = .int .i64 ((p : Int) + 1) ∧ EaR j w w1 wp (j.ea p 0))
      case atStart => exact ⟨0, Nat.zero_le _, rfl, rfl, EaR.start hR⟩
      case round =>
        obtain ⟨p, hp, rfl, rfl, hE⟩ := hrel
        have hJi := hJ.below (hE.bel hR)
        have e0 := hJi.c0
        by_cases hplt : p < j.n
        · have hpb : decide ((p : Int) + 1 ≤ (j.n : Int)) = true := by simp; omega
          go_wp2
          clear hJi e0
          go_loopg [12] j.n (fun gk i wq => ∃ q : Nat, q ≤ j.n ∧ gk = j.n - q ∧ i = .int .i64 ((q : Int) + 1) ∧ EaR j w w1 wq (j.ea p q))
          case atStart => exact ⟨0, Nat.zero_le _, rfl, rfl, hE⟩
          case round =>
            obtain ⟨q, hq, rfl, rfl, hE⟩ := hrel
            have hJq := hJ.below (hE.bel hR)
            have e0 := hJq.c0
            by_cases hqlt : q < j.n
            · have hqb : decide ((q : Int) + 1 ≤ (j.n : Int)) = true := by simp; omega
              cases hcp : j.cor p with
              | false =>
                go_wp2_with fail
                go_quiet ((go_at_call_of 47 (p); exact correct_quiet j _ _ J gC cC gS cS p G hn hplt hJq false hcp))
                go_wp2
                go_roundg (j.n - (q + 1))
                case rel => exact ⟨q + 1, by omega, rfl, by go_num, (hE.drewN _).congr (ea_same j p q (by simp [hcp]))⟩
                case measure => omega
              | true =>
                cases hcq : j.cor q with
                | false =>
                  go_wp2_with fail
                  go_quiet ((first | (go_at_call_of 47 (p); exact correct_quiet j _ _ J gC cC gS cS p G hn hplt hJq true hcp) | (go_at_call_of 47 (q); exact correct_quiet j _ _ J gC cC gS cS q G hn hqlt hJq false hcq)))
                  go_wp2
                  go_roundg (j.n - (q + 1))
                  case rel => exact ⟨q + 1, by omega, rfl, by go_num, (hE.drewN _).congr (ea_same j p q (by simp [hcq]))⟩
                  case measure => omega
                | true =>
                  have f3 := hJq.c3
                  have fS := hJq.hS p hplt
                  have fG := hJq.hG p hplt q hqlt
                  have f1 := hJq.c1
                  have f2 := hJq.c2
                  have wp1 : IntKind.i64.wrap ((p : Int) + 1 - 1) = p := by rw [IntKind.wrap_i64]; omega
                  have wq1 : IntKind.i64.wrap ((q : Int) + 1 - 1) = q := by rw [IntKind.wrap_i64]; omega
                  have pn0 : (p : Int) < (j.n : Int) := by omega
                  have qn0 : (q : Int) < (j.n : Int) := by omega
                  by_cases hs : 0 ≤ j.S p q
                  · by_cases ha : j.af < j.fin
                    · have hsd : decide (0 ≤ j.S p q) = true := decide_eq_true hs
                      have had : decide (j.af < j.fin) = true := decide_eq_true ha
                      have v1 := cell_blk (o := 1) hE.ver rfl
                      have vf := free_blk hE.ver 1
                      go_wp2_with fail
                      go_quiet ((first | (go_at_call_of 47 (p); exact correct_quiet j _ _ J gC cC gS cS p G hn hplt hJq true hcp) | (go_at_call_of 47 (q); exact correct_quiet j _ _ J gC cC gS cS q G hn hqlt hJq true hcq)))
                      go_wp2
                      go_roundg (j.n - (q + 1))
                      case rel => exact ⟨q + 1, by omega, rfl, by go_num, (hE.put _ _).congr (ea_false j p q (by simp [hcp, hcq, hs, ha]))⟩
                      case measure => omega
                    · have hsd : decide (0 ≤ j.S p q) = true := decide_eq_true hs
                      have had : decide (j.af < j.fin) = false := decide_eq_false ha
                      go_wp2_with fail
                      go_quiet ((first | (go_at_call_of 47 (p); exact correct_quiet j _ _ J gC cC gS cS p G hn hplt hJq true hcp) | (go_at_call_of 47 (q); exact correct_quiet j _ _ J gC cC gS cS q G hn hqlt hJq true hcq)))
                      go_wp2
                      go_roundg (j.n - (q + 1))
                      case rel => exact ⟨q + 1, by omega, rfl, by go_num, (hE.drewN _).congr (ea_same j p q (by simp [had]))⟩
                      case measure => omega
                  · have hsd : decide (0 ≤ j.S p q) = false := decide_eq_false hs
                    go_wp2_with fail
                    go_quiet ((first | (go_at_call_of 47 (p); exact correct_quiet j _ _ J gC cC gS cS p G hn hplt hJq true hcp) | (go_at_call_of 47 (q); exact correct_quiet j _ _ J gC cC gS cS q G hn hqlt hJq true hcq)))
                    go_wp2
                    go_roundg (j.n - (q + 1))
                    case rel => exact ⟨q + 1, by omega, rfl, by go_num, (hE.drewN _).congr (ea_same j p q (by simp [hsd]))⟩
                    case measure => omega
            · obtain rfl : q = j.n := by omega
              go_wp2
              go_roundg (j.n - (p + 1))
              case rel => exact ⟨p + 1, by omega, rfl, by go_num, hE.congr (ea_row j p)⟩
              case measure => omega
        · obtain rfl : p = j.n := by omega
          have v0 := cell_blk (o := 0) hE.ver rfl
          have v1 := cell_blk (o := 1) hE.ver rfl
          have hres := (hE.old w.heap.size (by omega)).trans hR.res
          have r0 := cell_blk (o := 0) hres rfl
          have r1 := cell_blk (o := 1) hres rfl
          have rf0 := free_blk hres 0
          have rf1 := free_blk hres 1
          have HRES : Hid (wr.heap[w.heap.size]? = some (.cells #[.bool false, .bool false] 45)) := hres
          clear hres
          go_wp2
          go_region
          go_wp2
          have hz := two_set (u := .bool (j.complete j.n)) (v := .bool (j.ea j.n 0)) HRES.out
          have z0 := cell_blk (o := 0) hz rfl
          have z1 := cell_blk (o := 1) hz rfl
          exact bodyPost_ret (v := .tuple #[.slice (some ⟨g, 0, none⟩) (j.dl j.n).length cap, .agg #[.bool (j.complete j.n), .bool (j.ea j.n 0)]]) (by simp [results, Try.results42, go_sem, z0, z1]) rfl ⟨g, cap, P, rfl, conP_end hE hR⟩
end Go.Proofs.Qxb6001094a

import Derived.Test.Qxb6001416aS2
namespace Go.Proofs.Qxb6001416a
open Go.RowKit Go.Deep

theorem blk_setCell' {w : World} {b o : Nat} {c : Array Value} {t : TypeId} (h : w.heap[b]? = some (.cells c t)) (u : Value) : (w.setCell ⟨b, o, none⟩ u).heap[b]? = some (.cells (c.setIfInBounds o u) t) := by
  simp [World.setCell, Array.getElem?_modify, h]
theorem cell_blk' {w : World} {b o : Nat} {c : Array Value} {t : TypeId} {v : Value} (h : w.heap[b]? = some (.cells c t)) (hv : c[o]? = some v) : w.cell? ⟨b, o, none⟩ = some v := by
  simp [World.cell?, h, hv]
theorem free_blk' {w : World} {b : Nat} {c : Array Value} {t : TypeId} (h : w.heap[b]? = some (.cells c t)) (o : Nat) : w.frozen? ⟨b, o, none⟩ = false := by
  simp [World.frozen?, h]

theorem info5 : (Try.prog.info? 5).map (fun i => (i.zero, i.size, i.bytes)) = some (some (.int .u8 0), 1, 1) := by kernel_rfl
/-- The array of digits, k laid. -/
structure RevR (w wr : World) (m k : Nat) : Prop where
  blk : ∃ cs, wr.heap[w.heap.size]? = some (.cells cs 41) ∧ cs.size = 40 ∧ ∀ i, i < k → cs[i]? = some (.int .u8 ((48 + m / 10 ^ i % 10 : Nat) : Int))
  bel : Below w.heap.size w wr
theorem RevR.put {w wr : World} {m k : Nat} {v : Value} (h : RevR w wr m k) (hk : k < 40) (hv : v = .int .u8 ((48 + m / 10 ^ k % 10 : Nat) : Int)) : RevR w (wr.setCell ⟨w.heap.size, k, none⟩ v) m (k + 1) := by
  obtain ⟨cs, h1, h2, h3⟩ := h.blk
  refine ⟨⟨_, blk_setCell' h1 _, by simp [h2], fun i hi => ?_⟩, h.bel.setCell (Nat.le_refl _) _⟩
  by_cases e : i = k
  · subst e
    rw [Array.getElem?_setIfInBounds_self_of_lt (by omega), hv]
  · rw [Array.getElem?_setIfInBounds_ne (Ne.symm e)]
    exact h3 i (by omega)
theorem RevR.cell {w wr : World} {m k : Nat} (h : RevR w wr m k) (i : Nat) (hi : i < 40) : ∃ v, wr.cell? ⟨w.heap.size, i, none⟩ = some v := by
  obtain ⟨cs, h1, h2, h3⟩ := h.blk
  exact ⟨cs[i]'(by omega), cell_blk' h1 (Array.getElem?_eq_getElem (by omega))⟩
theorem RevR.at {w wr : World} {m k : Nat} (h : RevR w wr m k) (i : Nat) (hi : i < k) : wr.cell? ⟨w.heap.size, i, none⟩ = some (.int .u8 ((48 + m / 10 ^ i % 10 : Nat) : Int)) := by
  obtain ⟨cs, h1, h2, h3⟩ := h.blk
  exact cell_blk' h1 (h3 i hi)
theorem RevR.free {w wr : World} {m k : Nat} (h : RevR w wr m k) (o : Nat) : wr.frozen? ⟨w.heap.size, o, none⟩ = false := by
  obtain ⟨cs, h1, h2, h3⟩ := h.blk
  exact free_blk' h1 o

theorem cell_below' {w w' : World} {a : Addr} {v : Value} (hb : Below w.heap.size w w') (h : w.cell? a = some v) : w'.cell? a = some v :=
  (hb.cell (block_lt_of_cell h)).trans h
def byteV (b : Nat) : Value := .int .u8 (b : Int)
/-- The bytes written so far. -/
structure OutR (w2 wr : World) (C L : Nat) (O : List Nat) : Prop where
  len : O.length = L
  own : wr.ownsRow w2.heap.size 5 1 (.slice (some ⟨w2.heap.size, 0, none⟩) L C) L (O.map byteV)
  bel : Below w2.heap.size w2 wr
theorem OutR.push {w2 wr w' : World} {C L b : Nat} {O : List Nat} {o : Obj} (h : OutR w2 wr C L O) (hown : w'.ownsRow w2.heap.size 5 1 (.slice (some ⟨w2.heap.size, 0, none⟩) (L + 1) C) (L + 1) (O.map byteV ++ [byteV b]))
    (hg : (wr.alloc o).grownBy w' (some w2.heap.size)) : OutR w2 w' C (L + 1) (O ++ [b]) := by
  have hs := h.bel.size
  exact ⟨by rw [List.length_append, h.len]; rfl, by rw [List.map_append]; exact hown, (h.bel.alloc hs _).grown hg (by simp; omega) (by simp)⟩
theorem one_byte (b : Nat) : ∀ u ∈ [byteV b], u.oneCell' = true := by
  intro u hu
  rcases List.mem_singleton.1 hu with rfl
  rfl
theorem OutR.text {w2 wr : World} {C L : Nat} {O : List Nat} (h : OutR w2 wr C L O) (hO : ∀ b ∈ O, b < 256) :
    (convert 29 9 (.slice (some ⟨w2.heap.size, 0, none⟩) L C)).run Try.prog wr = .ok (.string ⟨(O.map UInt8.ofNat).toArray⟩) wr := by
  have := run_convert_bytes_back (P := Try.prog) wr 29 9 5 ⟨w2.heap.size, 0, none⟩ C (O.map UInt8.ofNat) Try.underlying29 Try.underlying5 Try.underlying9 (fun j hj => by
    rw [List.length_map] at hj
    have hadd : (⟨w2.heap.size, 0, none⟩ : Addr).add j = ⟨w2.heap.size, j, none⟩ := by unfold Addr.add; split <;> simp_all
    have hb : O[j] < 256 := hO _ (List.getElem_mem hj)
    rw [hadd, h.own.cellAt j (by rw [← h.len]; omega), List.getElem?_map, List.getElem?_eq_getElem hj]
    simp [byteV, Nat.mod_eq_of_lt hb])
  rwa [List.length_map, h.len] at this

set_option maxRecDepth 100000 in
set_option maxHeartbeats 1000000 in
theorem render_any (n : Int) (ng : Bool) (m e : Nat) (hm : m < 1000000000000000000) (he : e ≤ 17) (hng : decide (n < 0) = ng) (hn : n = if ng = true then -(m : Int) else m) (w : World) :
    Calls Try.prog 10 #[.int .i64 n, .int .i64 e] w fun r w' => (∃ K, e < K ∧ K ≤ 18 ∧ m < 10 ^ K ∧ r = .returned (.tuple #[.string (text ng e m K), .int .i64 K])) ∧ Below w.heap.size w w' := by
  have HN : Hid (decide (n < 0) = ng ∧ n = if ng = true then -(m : Int) else m) := ⟨hng, hn⟩
  clear hng hn
  have hw : IntKind.u64.wrap (m : Int) = m := by simp [IntKind.wrap, IntKind.bits, IntKind.signed]; omega
  go_enter Try.func10, Try.ntmps10
  go_upto_if 16 with fail
  go_cut [6, 7, 16] from 12 (fun s6 s7 _ wc => s6 = .bool ng ∧ s7 = .int .u64 (m : Int) ∧ w = wc)
  case first =>
    obtain ⟨hng, hn⟩ := HN.out
    cases ng with
    | true =>
      rw [if_pos rfl] at hn
      subst hn
      have hm0 : 0 < m := by have := of_decide_eq_true hng; omega
      have hm1 : decide (0 < m) = true := decide_eq_true hm0
      have hm2 : decide (-(m : Int) < 0) = true := decide_eq_true (by omega)
      clear hng
      go_wp2
      go_meet
      exact ⟨rfl, rfl, rfl⟩
    | false =>
      rw [if_neg (by simp)] at hn
      subst hn
      clear hng
      go_wp2
      go_meet
      exact ⟨rfl, by rw [hw], rfl⟩
  case rest =>
    obtain ⟨rfl, rfl, rfl⟩ := hcut
    clear HN hw
    go_wp2_with fail
    have h0 : RevR w (w.alloc (.cells (Array.replicate 40 (.int .u8 0)) 41)) m 0 := ⟨⟨_, by simpa using heap_alloc_new w (.cells (Array.replicate 40 (.int .u8 0)) 41), by simp, fun i hi => by omega⟩, (Below.refl _ _).alloc (Nat.le_refl _) _⟩
    go_loopg [7, 9] m (fun gk s7 s9 wr => ∃ k q : Nat, q = gk ∧ k ≤ 18 ∧ m / 10 ^ k = q ∧ s7 = .int .u64 (q : Int) ∧ s9 = .int .i64 (k : Int) ∧ RevR w wr m k)
    case atStart => exact ⟨0, m, rfl, by omega, by simp, rfl, rfl, h0⟩
    case round =>
      clear h0
      obtain ⟨k, q, rfl, hk, hq, rfl, rfl, hR⟩ := hrel
      have hq18 : q < 1000000000000000000 := Nat.lt_of_le_of_lt (by rw [← hq]; exact Nat.div_le_self _ _) hm
      have HQ : Hid _ := hq
      clear hq
      by_cases hq0 : 0 < q
      · have hk17 : k < 18 := by
          have := HQ.out
          by_cases e : k = 18
          · subst e; rw [Nat.div_eq_of_lt hm] at this; omega
          · omega
        have hk40 : (k : Int) < 40 := by omega
        obtain ⟨v, hv⟩ := hR.cell k (by omega)
        have hf := hR.free k
        have hqd : decide (0 < q) = true := decide_eq_true hq0
        go_wp2
        go_roundg (q / 10)
        case rel =>
          refine ⟨k + 1, q / 10, rfl, by omega, ?_, ?_, by go_num, hR.put (by omega) ?_⟩
          · rw [Nat.pow_succ, ← Nat.div_div_eq_div_mul, HQ.out]
          · exact congrArg (Value.int .u64) (by omega)
          · rw [HQ.out]
            exact congrArg (Value.int .u8) (by omega)
        case measure => omega
      · obtain rfl : q = 0 := by omega
        go_wp2
        clear hq18 hq0
        have hk0 := hR
        go_loopg [9] (e + 1 - k) (fun gk s9 wr => ∃ k : Nat, gk = e + 1 - k ∧ k ≤ 18 ∧ m / 10 ^ k = 0 ∧ s9 = .int .i64 (k : Int) ∧ RevR w wr m k)
        case atStart => exact ⟨k, rfl, hk, HQ.out, rfl, hR⟩
        case round =>
          clear hR hk HQ hk0
          obtain ⟨k, rfl, hk, hq, rfl, hR⟩ := hrel
          have HQ : Hid _ := hq
          clear hq
          by_cases hlt : k < e + 1
          · have hlz : (k : Int) < (e : Int) + 1 := by omega
            have hk40 : (k : Int) < 40 := by omega
            obtain ⟨v, hv⟩ := hR.cell k (by omega)
            have hf := hR.free k
            go_wp2
            go_roundg (e + 1 - (k + 1))
            case rel =>
              refine ⟨k + 1, rfl, by omega, ?_, by go_num, hR.put (by omega) (by rw [HQ.out]; rfl)⟩
              rw [Nat.pow_succ, ← Nat.div_div_eq_div_mul, HQ.out]
            case measure => omega
          · have hle : e < k := by omega
            have hlez : decide ((k : Int) < (e : Int) + 1) = false := decide_eq_false (by omega)
            have hmk : m < 10 ^ k := by
              rcases Nat.lt_or_ge m (10 ^ k) with h | h
              · exact h
              · have := Nat.div_pos h (Nat.pow_pos (by decide)); have := HQ.out; omega
            have HK : Hid (m < 10 ^ k) := hmk
            clear hmk HQ hlt
            obtain ⟨w2, rfl⟩ : ∃ w2 : World, w2 = wr := ⟨_, rfl⟩
            obtain ⟨C, hC⟩ : ∃ C : Nat, C = k + 2 := ⟨_, rfl⟩
            obtain ⟨i0, hi, hz0, hz1, hz2⟩ := info_parts info5
            have HI : Hid (Try.prog.info? 5 = some i0 ∧ i0.zero = some (.int .u8 0) ∧ i0.size = 1 ∧ i0.bytes = 1) := ⟨hi, hz0, hz1, hz2⟩
            have HBY : Hid (i0.bytes * C ≤ 281474976710656) := show _ ≤ _ by rw [hz2]; omega
            have HCC : Hid ((k : Int) + 2 = (C : Int)) := show (k : Int) + 2 = (C : Int) by omega
            have HCK : Hid (C = k + 2) := hC
            have hC20 : C ≤ 20 := by omega
            clear hi hz0 hz1 hz2 hC
            go_upto_if 43 with (at_make; go_must (refine wpList_make_own _ rfl (.const (.int .i64 0)) (.tmp 41) 29 rfl w2.heap.size 5 i0 (.int .u8 0) 1 Try.underlying29 HI.out.1 HI.out.2.1 HI.out.2.2.1 .i64 .i64 ((k : Int) + 2) C rfl rfl HCC.out HBY.out (by unfold maxLen; omega) (Nat.le_refl _) ?_); intro w3 hown3 hgrow3)
            have h0 : OutR w2 w3 C 0 [] := ⟨rfl, hown3, (Below.refl _ _).grown hgrow3 (Nat.le_refl _) (by simp)⟩
            clear hown3 hgrow3
            go_cut [10, 43] from 12 (fun s10 _ wc => ∃ (L : Nat) (O : List Nat), s10 = .slice (some ⟨w2.heap.size, 0, none⟩) L C ∧ O ++ tail e m k = full ng e m k ∧ OutR w2 wc C L O)
            case first =>
              cases ng with
              | true =>
                have hown4 := h0.own
                go_wp2_with (at_builtin; go_must (refine wpList_append_fits _ rfl (.tmp 44) (.tmp 45) 29 rfl w2.heap.size 5 i0 1 Try.underlying29 HI.out.1 HI.out.2.2.1 w2.heap.size 0 C [] rfl (hown4.alloc _) ⟨w3.heap.size, 0, none⟩ 1 1 [byteV 45] rfl rfl (World.news_of_block (heap_alloc_new _ _)) (one_byte 45) (by have := HCK.out; omega) ?_); intro w4 hown5 hgrow5)
                go_meet
                exact ⟨1, [45], rfl, rfl, h0.push hown5 hgrow5⟩
              | false =>
                go_wp2
                go_meet
                exact ⟨0, [], rfl, rfl, h0⟩
            case rest =>
              obtain ⟨L, O, rfl, hO, hOut⟩ := hcut
              clear h0
              go_wp2_with fail
              go_loopg [10, 11] k (fun gk s10 s11 wr => ∃ (i L : Nat) (O : List Nat) (x : Int), i = gk ∧ i ≤ k ∧ x + 1 = (i : Int) ∧ s10 = .slice (some ⟨w2.heap.size, 0, none⟩) L C ∧ s11 = .int .i64 x ∧ O ++ tail e m i = full ng e m k ∧ OutR w2 wr C L O)
              case atStart => exact ⟨k, L, O, _, rfl, Nat.le_refl _, by omega, rfl, rfl, hO, hOut⟩
              case round =>
                clear hO hOut
                obtain ⟨i, L, O, x, rfl, hik, hx, rfl, rfl, hO, hOut⟩ := hrel
                have hfl := full_length ng e m k
                rw [← hO, List.length_append, hOut.len, ← HCK.out] at hfl
                cases i with
                | zero =>
                  obtain rfl : x = -1 := by omega
                  rw [show tail e m 0 = [] from rfl, List.append_nil] at hO
                  have hcv := hOut.text (by rw [hO]; exact full_lt ng e m k)
                  rw [hO] at hcv
                  clear hfl
                  go_wp2
                  go_ret2
                  exact ⟨⟨k, hle, hk, HK.out, rfl⟩, hR.bel.trans (hOut.bel.mono hR.bel.size)⟩
                | succ j =>
                  obtain rfl : x = (j : Int) := by omega
                  clear hx
                  have hc := cell_below' hOut.bel (hR.at j (by omega))
                  have htl : tail e m (j + 1) = (48 + m / 10 ^ j % 10) :: (if j = e ∧ 0 < e then 46 :: tail e m j else tail e m j) := rfl
                  rw [htl] at hO hfl
                  clear htl
                  generalize 48 + m / 10 ^ j % 10 = b at hc hO hfl
                  have HO : Hid _ := hO
                  clear hO
                  have hL1 : L + 1 ≤ C := by rw [List.length_cons] at hfl; omega
                  have hj40 : (j : Int) < 40 := by omega
                  have hj0 : decide ((0 : Int) ≤ (j : Int)) = true := decide_eq_true (by omega)
                  have hown4 := hOut.own
                  go_upto_region 21 with (at_builtin; go_must (refine wpList_append_fits _ rfl (.tmp 53) (.tmp 57) 29 rfl w2.heap.size 5 i0 1 Try.underlying29 HI.out.1 HI.out.2.2.1 w2.heap.size L C (O.map byteV) rfl (hown4.alloc _) ⟨wr.heap.size, 0, none⟩ 1 1 [byteV b] rfl rfl (World.news_of_block (heap_alloc_new _ _)) (one_byte b) hL1 ?_); intro w4 hown5 hgrow5)
                  have hOut2 := hOut.push hown5 hgrow5
                  clear hown4 hown5 hgrow5 hOut hc
                  by_cases hd : j = e ∧ 0 < e
                  · have hO := HO.out
                    rw [if_pos hd] at hO hfl
                    obtain ⟨rfl, h0⟩ := hd
                    have h0z : decide (0 < j) = true := decide_eq_true h0
                    have hL2 : L + 1 + 1 ≤ C := by simp only [List.length_cons] at hfl; omega
                    have HO2 : Hid _ := hO
                    have hown6 := hOut2.own
                    clear HO hO hfl
                    go_wp2_with (at_builtin; go_must (refine wpList_append_fits _ rfl (.tmp 66) (.tmp 67) 29 rfl w2.heap.size 5 i0 1 Try.underlying29 HI.out.1 HI.out.2.2.1 w2.heap.size (L + 1) C ((O ++ [b]).map byteV) rfl (hown6.alloc _) ⟨w4.heap.size, 0, none⟩ 1 1 [byteV 46] rfl rfl (World.news_of_block (heap_alloc_new _ _)) (one_byte 46) hL2 ?_); intro w5 hown7 hgrow7)
                    go_roundg j
                    case rel =>
                      refine ⟨j, L + 1 + 1, O ++ [b] ++ [46], _, rfl, by omega, ?_, rfl, rfl, ?_, hOut2.push hown7 hgrow7⟩
                      · go_num
                      · rw [← HO2.out]; simp
                    case measure => omega
                  · have hO := HO.out
                    rw [if_neg hd] at hO hfl
                    have HO2 : Hid _ := hO
                    clear HO hO hfl
                    by_cases hje : j = e
                    · subst hje
                      obtain rfl : j = 0 := by omega
                      go_wp2
                      go_roundg 0
                      case rel =>
                        refine ⟨0, L + 1, O ++ [b], _, rfl, by omega, ?_, rfl, rfl, ?_, hOut2⟩
                        · go_num
                        · rw [← HO2.out]; simp
                      case measure => omega
                    · have hjz : ((j : Int) == (e : Int)) = false := by simp; omega
                      go_wp2
                      go_roundg j
                      case rel =>
                        refine ⟨j, L + 1, O ++ [b], _, rfl, by omega, ?_, rfl, rfl, ?_, hOut2⟩
                        · go_num
                        · rw [← HO2.out]; simp
                      case measure => omega
end Go.Proofs.Qxb6001416a

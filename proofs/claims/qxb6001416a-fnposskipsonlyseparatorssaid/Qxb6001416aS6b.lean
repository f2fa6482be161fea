import Derived.Test.Qxb6001416aS6
namespace Go.Proofs.Qxb6001416a
open Go.RowKit Go.Deep

theorem blk_setCell6 {w : World} {b o : Nat} {c : Array Value} {t : TypeId} (h : w.heap[b]? = some (.cells c t)) (u : Value) : (w.setCell ⟨b, o, none⟩ u).heap[b]? = some (.cells (c.setIfInBounds o u) t) := by
  simp [World.setCell, Array.getElem?_modify, h]
theorem cell_blk6 {w : World} {b o : Nat} {c : Array Value} {t : TypeId} {v : Value} (h : w.heap[b]? = some (.cells c t)) (hv : c[o]? = some v) : w.cell? ⟨b, o, none⟩ = some v := by
  simp [World.cell?, h, hv]
theorem free_blk6 {w : World} {b : Nat} {c : Array Value} {t : TypeId} (h : w.heap[b]? = some (.cells c t)) (o : Nat) : w.frozen? ⟨b, o, none⟩ = false := by
  simp [World.frozen?, h]

/-- The newlines among k bytes from st on. -/
def nls (Z : Nat → Nat) (st : Nat) : Nat → Nat
  | 0 => 0
  | k + 1 => nls Z st k + if Z (st + k) = 10 then 1 else 0
theorem nls_le (Z : Nat → Nat) (st k : Nat) : nls Z st k ≤ k := by
  induction k with
  | zero => exact Nat.le_refl _
  | succ k ih => unfold nls; split <;> omega

/-- The line, c newlines on. -/
def lineAt (line : Int) (c : Nat) : Int := wrap64 (line + c)
theorem lineAt_succ (line : Int) (c : Nat) : wrap64 (lineAt line c + 1) = lineAt line (c + 1) := by
  unfold lineAt wrap64; omega
theorem lineAt_zero {line : Int} (h : (Lit.int .i64 line).wf = true) : lineAt line 0 = line := by
  have h1 : -9223372036854775808 ≤ line ∧ line ≤ 9223372036854775807 := by
    have h' : IntKind.i64.min ≤ line ∧ line ≤ IntKind.i64.max := by simpa [Lit.wf] using h
    have e1 : IntKind.i64.min = -9223372036854775808 := by decide
    have e2 : IntKind.i64.max = 9223372036854775807 := by decide
    rw [e1, e2] at h'
    exact h'
  unfold lineAt wrap64
  omega

def readerAt (w : World) (R : Nat) (file : ByteArray) (a : Option Addr) (n : Nat) (p : Nat) (ln : Int) : Prop :=
  w.heap[R]? = some (.cells #[.string file, .slice a n n, .int .i64 (p : Int), .int .i64 ln] 44)

/-- pos's loop, k bytes passed. -/
structure PosR (w wr : World) (R : Nat) (file : ByteArray) (a : Option Addr) (n st k : Nat) (line : Int) (Z : Nat → Nat) : Prop where
  rd : readerAt wr R file a n (st + k) (lineAt line (nls Z st k))
  res : wr.heap[w.heap.size]? = some (.cells #[.string ⟨#[]⟩, .int .i64 0] 33)
  sep : ∀ j, j < k → isSep (Z (st + j)) = true
  bel : Below R w wr
  lt : R < w.heap.size

/-- What pos says. -/
structure PosP (n st k : Nat) (Z : Nat → Nat) : Prop where
  le : k = 0 ∧ n ≤ st ∨ st + k ≤ n
  sep : ∀ j, j < k → isSep (Z (st + j)) = true
  stop : st + k < n → isSep (Z (st + k)) = false

theorem below_drewN (w : World) (B q : Nat) : Below B w (w.drewN q) := ⟨rfl, rfl, rfl, Nat.le_refl _, fun _ _ => rfl⟩
theorem PosR.nl {w wr : World} {R : Nat} {file : ByteArray} {a : Option Addr} {n st k p : Nat} {line : Int} {Z : Nat → Nat} (h : PosR w wr R file a n st k line Z) (hp : st + k = p) (hz : Z p = 10) (q : Nat) :
    PosR w (((wr.drewN q).setCell ⟨R, 3, none⟩ (.int .i64 (wrap64 (lineAt line (nls Z st k) + 1)))).setCell ⟨R, 2, none⟩ (.int .i64 ((p : Int) + 1))) R file a n st (k + 1) line Z := by
  subst hp
  have hb : (wr.drewN q).heap[R]? = some (.cells #[.string file, .slice a n n, .int .i64 ((st + k : Nat) : Int), .int .i64 (lineAt line (nls Z st k))] 44) := h.rd
  refine ⟨?_, ?_, fun j hj => ?_, ((h.bel.trans (below_drewN _ _ _)).setCell (Nat.le_refl _) _).setCell (Nat.le_refl _) _, h.lt⟩
  · unfold readerAt
    rw [blk_setCell6 (blk_setCell6 hb _) _, lineAt_succ]
    have e : nls Z st (k + 1) = nls Z st k + 1 := by show _ + (if _ then _ else _) = _; rw [if_pos hz]
    rw [e]
    simp
    omega
  · rw [Below.heap_setCell _ _ _ _ (by simpa using (Nat.ne_of_gt h.lt)), Below.heap_setCell _ _ _ _ (by simpa using (Nat.ne_of_gt h.lt))]
    exact h.res
  · by_cases e : j = k
    · rw [e, hz]; rfl
    · exact h.sep j (by omega)
theorem PosR.sp {w wr : World} {R : Nat} {file : ByteArray} {a : Option Addr} {n st k p : Nat} {line : Int} {Z : Nat → Nat} (h : PosR w wr R file a n st k line Z) (hp : st + k = p) (hs : isSep (Z p) = true) (hz : Z p ≠ 10) (q : Nat) :
    PosR w ((wr.drewN q).setCell ⟨R, 2, none⟩ (.int .i64 ((p : Int) + 1))) R file a n st (k + 1) line Z := by
  subst hp
  have hb : (wr.drewN q).heap[R]? = some (.cells #[.string file, .slice a n n, .int .i64 ((st + k : Nat) : Int), .int .i64 (lineAt line (nls Z st k))] 44) := h.rd
  refine ⟨?_, ?_, fun j hj => ?_, (h.bel.trans (below_drewN _ _ _)).setCell (Nat.le_refl _) _, h.lt⟩
  · unfold readerAt
    rw [blk_setCell6 hb _]
    have e : nls Z st (k + 1) = nls Z st k := by show _ + (if _ then _ else _) = _; rw [if_neg hz]; rfl
    rw [e]
    simp
    omega
  · rw [Below.heap_setCell _ _ _ _ (by simpa using (Nat.ne_of_gt h.lt))]
    exact h.res
  · by_cases e : j = k
    · rw [e]; exact hs
    · exact h.sep j (by omega)
theorem PosR.done {w wr : World} {R : Nat} {file : ByteArray} {a : Option Addr} {n st k : Nat} {line : Int} {Z : Nat → Nat} (h : PosR w wr R file a n st k line Z) (q : Nat) {W : World}
    (hW : ((wr.drewN q).setCell ⟨w.heap.size, 0, none⟩ (.string file)).setCell ⟨w.heap.size, 1, none⟩ (.int .i64 (lineAt line (nls Z st k))) = W) :
    W.cell? ⟨w.heap.size, 0, none⟩ = some (.string file) ∧ W.cell? ⟨w.heap.size, 1, none⟩ = some (.int .i64 (lineAt line (nls Z st k))) ∧ readerAt W R file a n (st + k) (lineAt line (nls Z st k)) ∧ Below R w W := by
  have hb : (wr.drewN q).heap[w.heap.size]? = some (.cells #[.string ⟨#[]⟩, .int .i64 0] 33) := h.res
  have hz := blk_setCell6 (o := 1) (blk_setCell6 (o := 0) hb (.string file)) (.int .i64 (lineAt line (nls Z st k)))
  rw [hW] at hz
  have hlt := h.lt
  refine ⟨cell_blk6 hz (by simp), cell_blk6 hz (by simp), ?_, ?_⟩
  · unfold readerAt
    rw [← hW, Below.heap_setCell _ _ _ _ (by simpa using (Nat.ne_of_lt h.lt)), Below.heap_setCell _ _ _ _ (by simpa using (Nat.ne_of_lt h.lt))]
    exact h.rd
  · rw [← hW]
    exact ((h.bel.trans (below_drewN _ _ _)).setCell (Nat.le_of_lt hlt) _).setCell (Nat.le_of_lt hlt) _

set_option maxRecDepth 100000 in
set_option maxHeartbeats 1000000 in
theorem pos_any (R : Nat) (file : ByteArray) (a : Option Addr) (n st : Nat) (line : Int) (Z : Nat → Nat) (w : World) (hn : n ≤ 1048576) (hR : readerAt w R file a n st line) (hl : lineAt line 0 = line)
    (hB : n = 0 ∨ ∃ g, a = some ⟨g, 0, none⟩ ∧ g < R ∧ ∀ i, i < n → w.cell? ⟨g, i, none⟩ = some (.int .u8 (Z i : Int))) :
    Calls Try.prog 25 #[.pointer (some ⟨R, 0, none⟩)] w fun e w' => ∃ k, PosP n st k Z ∧ e = .returned (.agg #[.string file, .int .i64 (lineAt line (nls Z st k))]) ∧ readerAt w' R file a n (st + k) (lineAt line (nls Z st k)) ∧ Below R w w' := by
  have hRl : R < w.heap.size := lt_of_block hR
  have h0 : PosR w (w.alloc (.cells #[.string ⟨#[]⟩, .int .i64 0] 33)) R file a n st 0 line Z := by
    refine ⟨?_, heap_alloc_new _ _, fun j hj => by omega, (Below.refl _ _).alloc (Nat.le_of_lt hRl) _, hRl⟩
    unfold readerAt
    rw [Below.heap_alloc _ _ _ hRl, Nat.add_zero, show nls Z st 0 = 0 from rfl, hl]
    exact hR
  have HB : Hid _ := hB
  clear hB hR hl
  go_enter Try.func25, Try.ntmps25
  go_wp2
  go_loopg [39, 48] (n - st) (fun gk _ _ wr => ∃ k p : Nat, st + k = p ∧ gk = n - p ∧ (k = 0 ∨ p ≤ n) ∧ PosR w wr R file a n st k line Z)
  case atStart => exact ⟨0, st, rfl, rfl, .inl rfl, h0⟩
  case round =>
    clear h0
    obtain ⟨k, p, hp, rfl, hkn, hP⟩ := hrel
    have hrd := hP.rd
    rw [hp] at hrd
    unfold readerAt at hrd
    have c0 := cell_blk6 (o := 0) hrd rfl
    have c1 := cell_blk6 (o := 1) hrd rfl
    have c2 := cell_blk6 (o := 2) hrd rfl
    have c3 := cell_blk6 (o := 3) hrd rfl
    have f2 := free_blk6 hrd 2
    have f3 := free_blk6 hrd 3
    have hRs : R < wr.heap.size := lt_of_block hrd
    have hres := hP.res
    have r0 := cell_blk6 (o := 0) hres rfl
    have r1 := cell_blk6 (o := 1) hres rfl
    have rf0 := free_blk6 hres 0
    have rf1 := free_blk6 hres 1
    have hne : R ≠ w.heap.size := Nat.ne_of_lt hP.lt
    have HL : Hid _ := hP
    have HK : Hid (st + k = p ∧ (k = 0 ∨ p ≤ n)) := ⟨hp, hkn⟩
    clear hrd hres hP hp hkn
    by_cases hlt : p < n
    · have hlz : (p : Int) < (n : Int) := by omega
      have hld : decide ((p : Int) < (n : Int)) = true := decide_eq_true hlz
      rcases HB.out with h0 | ⟨g, rfl, hg, hc⟩
      · omega
      have hcp := (HL.out.bel.cell (p := ⟨g, p, none⟩) hg).trans (hc p hlt)
      have hgs : g < wr.heap.size := by omega
      generalize hb : Z p = b at hcp
      have HZB : Hid (Z p = b) := hb
      clear hb hc
      go_wp2_with fail
      go_quiet (fail)
      go_wp2_with fail
      go_quiet (fail)
      by_cases h10 : b = 10
      · subst h10
        go_wp2
        go_roundg (n - (p + 1))
        case rel => exact ⟨k + 1, p + 1, by have := HK.out.1; omega, rfl, .inr hlt, HL.out.nl HK.out.1 HZB.out _⟩
        case measure => omega
      · have z1 : ((b : Int) == 10) = false := by simp; omega
        by_cases hsp : isSep b = true
        · have HSP : Hid (isSep (Z p) = true ∧ Z p ≠ 10) := ⟨by rw [HZB.out]; exact hsp, by rw [HZB.out]; exact h10⟩
          have hcase : b = 32 ∨ b = 9 ∨ b = 13 ∨ b = 44 ∨ b = 58 := by simp [isSep, h10] at hsp; omega
          clear hsp
          rcases hcase with rfl | rfl | rfl | rfl | rfl
          · go_wp2
            go_roundg (n - (p + 1))
            case rel => exact ⟨k + 1, p + 1, by have := HK.out.1; omega, rfl, .inr hlt, HL.out.sp HK.out.1 HSP.out.1 HSP.out.2 _⟩
            case measure => omega
          · go_wp2
            go_roundg (n - (p + 1))
            case rel => exact ⟨k + 1, p + 1, by have := HK.out.1; omega, rfl, .inr hlt, HL.out.sp HK.out.1 HSP.out.1 HSP.out.2 _⟩
            case measure => omega
          · go_wp2
            go_roundg (n - (p + 1))
            case rel => exact ⟨k + 1, p + 1, by have := HK.out.1; omega, rfl, .inr hlt, HL.out.sp HK.out.1 HSP.out.1 HSP.out.2 _⟩
            case measure => omega
          · go_wp2
            go_roundg (n - (p + 1))
            case rel => exact ⟨k + 1, p + 1, by have := HK.out.1; omega, rfl, .inr hlt, HL.out.sp HK.out.1 HSP.out.1 HSP.out.2 _⟩
            case measure => omega
          · go_wp2
            go_roundg (n - (p + 1))
            case rel => exact ⟨k + 1, p + 1, by have := HK.out.1; omega, rfl, .inr hlt, HL.out.sp HK.out.1 HSP.out.1 HSP.out.2 _⟩
            case measure => omega
        · have hns : isSep b = false := by simpa using hsp
          have HPP : Hid (PosP n st k Z) := show PosP n st k Z from ⟨.inr (by have := HK.out.1; omega), HL.out.sep, fun _ => by rw [HK.out.1, HZB.out]; exact hns⟩
          have z2 : ((b : Int) == 32) = false := by have : b ≠ 32 := (by rintro rfl; exact hsp rfl); simp; omega
          have z3 : ((b : Int) == 9) = false := by have : b ≠ 9 := (by rintro rfl; exact hsp rfl); simp; omega
          have z4 : ((b : Int) == 13) = false := by have : b ≠ 13 := (by rintro rfl; exact hsp rfl); simp; omega
          have z5 : ((b : Int) == 44) = false := by have : b ≠ 44 := (by rintro rfl; exact hsp rfl); simp; omega
          have z6 : ((b : Int) == 58) = false := by have : b ≠ 58 := (by rintro rfl; exact hsp rfl); simp; omega
          clear hsp hns
          go_wp2_with fail
          go_region
          go_wp2
          generalize hW : World.setCell _ _ _ = W
          obtain ⟨y0, y1, y2, y3⟩ := HL.out.done _ hW
          refine bodyPost_ret (v := .agg #[.string file, .int .i64 (lineAt line (nls Z st k))]) ?_ rfl ⟨k, HPP.out, rfl, y2, y3⟩
          simp [results, Try.results25, go_sem, y0, y1]
    · have hld : decide ((p : Int) < (n : Int)) = false := decide_eq_false (by omega)
      have HPP : Hid (PosP n st k Z) := show PosP n st k Z from ⟨by have h1 := HK.out.1; have h2 := HK.out.2; omega, HL.out.sep, fun h => by have := HK.out.1; omega⟩
      go_wp2_with fail
      go_quiet (fail)
      go_wp2_with fail
      go_region
      go_wp2
      generalize hW : World.setCell _ _ _ = W
      obtain ⟨y0, y1, y2, y3⟩ := HL.out.done _ hW
      refine bodyPost_ret (v := .agg #[.string file, .int .i64 (lineAt line (nls Z st k))]) ?_ rfl ⟨k, HPP.out, rfl, y2, y3⟩
      simp [results, Try.results25, go_sem, y0, y1]
end Go.Proofs.Qxb6001416a

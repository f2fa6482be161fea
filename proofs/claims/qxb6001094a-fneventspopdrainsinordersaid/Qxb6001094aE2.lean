import Derived.Test.Qxb6001094aE1
import Derived.Test.Qxb6001094aJ5
import Derived.Deep.RegionHeld3
import Derived.Deep.DrawnRows
import Derived.Deep.CutBlock
import Derived.Deep.DeepCutAuto
namespace Go.Proofs.Qxb6001094a
open Go.RowKit Go.Deep

/-- An event as it lies from place o of block b on. -/
structure At5 (w : World) (b o : Nat) (x : E5) : Prop where
  f0 : w.cell? ⟨b, o, none⟩ = some (.int .i64 x.a)
  f1 : w.cell? ⟨b, o + 1, none⟩ = some (.int .i64 x.b)
  f2 : w.cell? ⟨b, o + 2, none⟩ = some (.int .i64 x.c)
  f3 : w.cell? ⟨b, o + 3, none⟩ = some (.int .i64 x.d)
  f4 : w.cell? ⟨b, o + 4, none⟩ = some (.int .i64 x.e)

/-- Events in a row. -/
def EvsAt (w : World) (b o : Nat) (l : List E5) : Prop := ∀ i, i < l.length → At5 w b (o + i * 5) (gt l i)
def EvsIn (w : World) (a : Option Addr) (l : List E5) : Prop := l = [] ∨ ∃ b o, a = some ⟨b, o, none⟩ ∧ EvsAt w b o l

theorem cell_below' {w w' : World} {a : Addr} {v : Value} (hb : Below w.heap.size w w') (h : w.cell? a = some v) : w'.cell? a = some v :=
  (hb.cell (block_lt_of_cell h)).trans h
theorem At5.below {w w' : World} {b o : Nat} {x : E5} (h : At5 w b o x) (hb : Below w.heap.size w w') : At5 w' b o x :=
  ⟨cell_below' hb h.f0, cell_below' hb h.f1, cell_below' hb h.f2, cell_below' hb h.f3, cell_below' hb h.f4⟩
theorem EvsAt.below {w w' : World} {b o : Nat} {l : List E5} (h : EvsAt w b o l) (hb : Below w.heap.size w w') : EvsAt w' b o l := fun i hi => (h i hi).below hb
theorem EvsIn.below {w w' : World} {a : Option Addr} {l : List E5} (h : EvsIn w a l) (hb : Below w.heap.size w w') : EvsIn w' a l := by
  rcases h with h | ⟨b, o, ha, h⟩
  · exact .inl h
  · exact .inr ⟨b, o, ha, h.below hb⟩

theorem bcellD {W w1 : World} (hb : Below W.drew.heap.size W.drew w1) : ∀ b o, b < W.heap.size → w1.cell? ⟨b, o, none⟩ = W.cell? ⟨b, o, none⟩ :=
  fun b o h => hb.cell (p := ⟨b, o, none⟩) h

attribute [local go_sem] Go.wp_at_zero Go.wp_at_succ

set_option maxHeartbeats 1000000 in
theorem isHeap_any (a : Option Addr) (c : Nat) (l : List E5) (w : World) (hn : l.length ≤ 131072) (hE : EvsIn w a l) :
    Calls Try.prog 12 #[.slice a l.length c] w fun e w' => RB (fun b => b = true ↔ IsHeap l.length (gt l)) e ∧ Below w.heap.size w w' := by
  have HE : Hid (EvsIn w a l) := hE
  clear hE
  go_enter Try.func12, Try.ntmps12
  go_wp2
  go_loopg [3] (l.length + 1 - 1) (fun gk i wr => ∃ k : Nat, 1 ≤ k ∧ gk = l.length + 1 - k ∧ i = .int .i64 k ∧ Below w.heap.size w wr ∧ Hid (∀ j, 1 ≤ j → j < k → bef (gt l j) (gt l ((j - 1) / 2)) = false) ∧ (k ≤ l.length ∨ k = 1))
  case atStart => exact ⟨1, Nat.le_refl _, rfl, rfl, Below.refl _ _, fun j h1 h2 => by omega, .inr rfl⟩
  case round =>
    obtain ⟨k, hk, rfl, rfl, hb, hall, hor⟩ := hrel
    by_cases hlt : k < l.length
    · rcases HE.out with h0 | ⟨b, o, rfl, hA⟩
      · rw [h0] at hlt; simp at hlt
      obtain ⟨p, hp⟩ : ∃ p, (k - 1) / 2 = p := ⟨_, rfl⟩
      have x1 := (hA k hlt).below hb
      have x2 := (hA p (by omega)).below hb
      have g1 : (k : Int) < (l.length : Int) := by omega
      have g2 : (1 : Int) ≤ (k : Int) := by omega
      have g3 : (p : Int) < (l.length : Int) := by omega
      have w1e : IntKind.i64.wrap ((k : Int) - 1) = (k : Int) - 1 := by rw [IntKind.wrap_i64]; omega
      have w2e : IntKind.i64.wrap (((k : Int) - 1).tdiv 2) = (p : Int) := by rw [IntKind.wrap_i64, Int.tdiv_eq_ediv_of_nonneg (by omega)]; omega
      have hbl : b < wr.heap.size := block_lt_of_cell x1.f0
      obtain ⟨xa, xb, xc, xd, xe⟩ := x1
      obtain ⟨ya, yb, yc, yd, ye⟩ := x2
      generalize hx : gt l k = x at xa xb xc xd xe
      generalize hy : gt l p = y at ya yb yc yd ye
      have HX : Hid ((k - 1) / 2 = p ∧ gt l k = x ∧ gt l p = y) := ⟨hp, hx, hy⟩
      clear hx hy HE hA hp
      go_wp2
      go_region_held3 (fun w' => w'.cell? ⟨b, o + k * 5, none⟩ = some (.int .i64 x.a) ∧ w'.cell? ⟨b, o + k * 5 + 1, none⟩ = some (.int .i64 x.b) ∧ w'.cell? ⟨b, o + k * 5 + 2, none⟩ = some (.int .i64 x.c) ∧ w'.cell? ⟨b, o + k * 5 + 3, none⟩ = some (.int .i64 x.d) ∧ w'.cell? ⟨b, o + k * 5 + 4, none⟩ = some (.int .i64 x.e) ∧ w'.cell? ⟨b, o + p * 5, none⟩ = some (.int .i64 y.a) ∧ w'.cell? ⟨b, o + p * 5 + 1, none⟩ = some (.int .i64 y.b) ∧ w'.cell? ⟨b, o + p * 5 + 2, none⟩ = some (.int .i64 y.c) ∧ w'.cell? ⟨b, o + p * 5 + 3, none⟩ = some (.int .i64 y.d) ∧ w'.cell? ⟨b, o + p * 5 + 4, none⟩ = some (.int .i64 y.e)) (go_keep)
        ((go_at_call 17; refine (evBefore_any x y _).mono ?_; rintro e w1 ⟨rfl, hb1⟩; have hr1 := bcellD hb1))
      have hb2 : Below w.heap.size w w1 := (hb.drew).trans (hb1.mono hb.size)
      clear hb1 hr1 xa xb xc xd xe ya yb yc yd ye
      cases hbef : bef x y with
      | true =>
        go_wp2
        go_ret
        refine ⟨RB.mk (b := false) ?_ rfl, hb2⟩
        obtain ⟨h1, h2, h3⟩ := HX.out
        simp only [Bool.false_eq_true, false_iff]
        intro hh
        have := hh k hk hlt
        rw [h1, h2, h3, hbef] at this
        cases this
      | false =>
        go_wp2
        go_roundg (l.length + 1 - (k + 1))
        case rel =>
          obtain ⟨h1, h2, h3⟩ := HX.out
          refine ⟨k + 1, by omega, rfl, by go_num, hb2, fun j h4 h5 => ?_, .inl (by omega)⟩
          by_cases e : j = k
          · rw [e, h1, h2, h3]; exact hbef
          · exact hall.out j h4 (by omega)
        case measure => omega
    · go_wp2
      go_ret
      exact ⟨RB.mk (b := true) (by simp only [true_iff]; exact fun j h1 h2 => hall.out j h1 (by omega)) rfl, hb⟩
end Go.Proofs.Qxb6001094a

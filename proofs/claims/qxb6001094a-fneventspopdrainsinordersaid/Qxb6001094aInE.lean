import Derived.Test.Qxb6001094aE2
import Derived.ProofKit
import Derived.ChangeOld
import Derived.OpenShut
import Derived.Deep.Slices
namespace Go.Proofs.Qxb6001094a
open Go.ChangeShapes Go.WideShapes Go.ChangeAt Go.RowKit Go.Deep

theorem ownE : ownKnob Try.prog.godebug = none := by kernel_rfl
theorem laidOutE : laidOutB Try.prog = true := by kernel_rfl
theorem cells3E : Try.prog.cellsOf 3 = 1 := by kernel_rfl
theorem cells29E : Try.prog.cellsOf 29 = 5 := by kernel_rfl

theorem take_one_drop {cs : List Value} {k : Nat} {v : Value} (h : (cs.drop k).take 1 = [v]) : cs[k]? = some v := by
  have := congrArg (fun l => l[0]?) h
  simpa using this

/-- One event read: its five cells. -/
theorem ev_read {H : Type} {enc : TypeId × Value → H} {W : World} {a : Addr} {cs : List Value} {n : Nat} {x : DataW H × List MemPlace}
    (h1 : W.cells? 0 a 5 = some cs) (h2 : DataW.trod enc Try.prog W 0 (fun _ => true) true n 29 cs = some x) :
    ∃ e : E5, W.cell? (a.add 0) = some (.int .i64 e.a) ∧ W.cell? (a.add 1) = some (.int .i64 e.b) ∧ W.cell? (a.add 2) = some (.int .i64 e.c) ∧ W.cell? (a.add 3) = some (.int .i64 e.d) ∧ W.cell? (a.add 4) = some (.int .i64 e.e) := by
  obtain ⟨_, hl, hc⟩ := World.cells?_some h1
  obtain ⟨xs, m, _, _, _, hxl, hf⟩ := DataW.trod_struct Try.underlying29 h2
  have hk : ∀ k, k < 5 → ∃ z : Int, W.cell? (a.add k) = some (.int .i64 z) := by
    intro k hk
    have hfk : ∃ f : Field, f.type = 3 ∧ f.offset = k ∧ (#[{ name := "At", type := 3, offset := 0, embedded := false, tag := "", pkgPath := "", byteOffset := 0 }, { name := "Order", type := 3, offset := 1, embedded := false, tag := "", pkgPath := "", byteOffset := 8 }, { name := "To", type := 3, offset := 2, embedded := false, tag := "", pkgPath := "", byteOffset := 16 }, { name := "From", type := 3, offset := 3, embedded := false, tag := "", pkgPath := "", byteOffset := 24 }, { name := "Payload", type := 3, offset := 4, embedded := false, tag := "", pkgPath := "", byteOffset := 32 }] : Array Field)[k]? = some f := by
      match k, hk with
      | 0, _ => exact ⟨_, rfl, rfl, rfl⟩
      | 1, _ => exact ⟨_, rfl, rfl, rfl⟩
      | 2, _ => exact ⟨_, rfl, rfl, rfl⟩
      | 3, _ => exact ⟨_, rfl, rfl, rfl⟩
      | 4, _ => exact ⟨_, rfl, rfl, rfl⟩
    obtain ⟨f, ft, fo, fk⟩ := hfk
    have ht := hf k f fk
    rw [ft, fo, cells3E] at ht
    have hxk : k < xs.length := by rw [hxl]; simpa using hk
    rw [List.getElem?_eq_getElem hxk] at ht
    obtain ⟨z, hz, _⟩ := DataW.trod_int Try.underlying3 ht
    exact ⟨z, by rw [hc k hk]; exact take_one_drop hz⟩
  obtain ⟨z0, g0⟩ := hk 0 (by omega)
  obtain ⟨z1, g1⟩ := hk 1 (by omega)
  obtain ⟨z2, g2⟩ := hk 2 (by omega)
  obtain ⟨z3, g3⟩ := hk 3 (by omega)
  obtain ⟨z4, g4⟩ := hk 4 (by omega)
  exact ⟨⟨z0, z1, z2, z3, z4⟩, g0, g1, g2, g3, g4⟩

/-- A slice of events that came in, as the walks take it. -/
theorem evs_in {H : Type} {enc : TypeId × Value → H} {W : World} {a : Option Addr} {len cap fuel : Nat} {x : DataW H × List MemPlace}
    (hf : DataW.trod enc Try.prog W 0 (fun _ => true) true fuel 22 (Value.slice a len cap).cells.toList = some x) :
    ∃ l : List E5, l.length = len ∧ EvsIn W a l ∧ (a = none → l = []) ∧ len ≤ maxLen ∧ len ≤ cap := by
  rcases open_slice Try.underlying22 hf with ⟨hcs, _⟩ | ⟨ad, l, c, m, n, D, Pl, hcs, _, hl, hm, hmc, _, he⟩
  · simp [Value.cells] at hcs
    obtain ⟨rfl, rfl, rfl⟩ := hcs
    exact ⟨[], rfl, .inl rfl, fun _ => rfl, Nat.zero_le _, Nat.le_refl _⟩
  · simp [Value.cells] at hcs
    obtain ⟨rfl, rfl, rfl⟩ := hcs
    simp only [if_true] at hmc
    rw [hmc] at he
    have hel : ∀ i, ∃ e : E5, i < cap → W.cell? ((ad.add (i * 5)).add 0) = some (.int .i64 e.a) ∧ W.cell? ((ad.add (i * 5)).add 1) = some (.int .i64 e.b) ∧ W.cell? ((ad.add (i * 5)).add 2) = some (.int .i64 e.c) ∧ W.cell? ((ad.add (i * 5)).add 3) = some (.int .i64 e.d) ∧ W.cell? ((ad.add (i * 5)).add 4) = some (.int .i64 e.e) := by
      intro i
      by_cases hi : i < cap
      · obtain ⟨cs', h1, h2⟩ := he i hi
        rw [cells29E] at h1
        obtain ⟨e, h⟩ := ev_read h1 h2
        exact ⟨e, fun _ => h⟩
      · exact ⟨e0, fun h => absurd h hi⟩
    obtain ⟨F, hF⟩ : ∃ F : Nat → E5, ∀ i, i < cap → W.cell? ((ad.add (i * 5)).add 0) = some (.int .i64 (F i).a) ∧ W.cell? ((ad.add (i * 5)).add 1) = some (.int .i64 (F i).b) ∧ W.cell? ((ad.add (i * 5)).add 2) = some (.int .i64 (F i).c) ∧ W.cell? ((ad.add (i * 5)).add 3) = some (.int .i64 (F i).d) ∧ W.cell? ((ad.add (i * 5)).add 4) = some (.int .i64 (F i).e) :=
      ⟨fun i => (hel i).choose, fun i => (hel i).choose_spec⟩
    refine ⟨(List.range len).map F, by simp, ?_, by simp, Nat.le_trans hl hm, hl⟩
    by_cases h0 : len = 0
    · subst h0; exact .inl rfl
    · have h00 := (hF 0 (by omega)).1
      obtain ⟨b, o, rfl⟩ : ∃ b o, ad = ⟨b, o, none⟩ := by
        obtain ⟨b, o, s⟩ := ad
        have hs : s = none := by simpa [Addr.add] using World.cell?_spot h00
        exact ⟨b, o, by rw [hs]⟩
      refine .inr ⟨b, o, rfl, fun i hi => ?_⟩
      have hil : i < len := by simpa using hi
      obtain ⟨g0, g1, g2, g3, g4⟩ := hF i (by omega)
      have eg : gt ((List.range len).map F) i = F i := by
        rw [gt_of_lt hi]; simp
      rw [eg]
      simp only [add_plain, Nat.add_zero] at g0 g1 g2 g3 g4
      exact ⟨g0, g1, g2, g3, g4⟩
end Go.Proofs.Qxb6001094a

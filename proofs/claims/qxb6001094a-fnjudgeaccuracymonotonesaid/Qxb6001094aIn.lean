import Derived.Test.Qxb6001094aL5
import Derived.ProofKit
import Derived.ChangeOld
import Derived.OpenShut
import Derived.Deep.Matrix
namespace Go.Proofs.Qxb6001094a
open Go.ChangeShapes Go.WideShapes Go.ChangeAt Go.RowKit Go.Deep

theorem own : ownKnob Try.prog.godebug = none := by kernel_rfl
theorem laidOut : laidOutB Try.prog = true := by kernel_rfl

theorem plain_of_cell {w : World} {a : Addr} {v : Value} (h : w.cell? (a.add 0) = some v) : ∃ b o, a = ⟨b, o, none⟩ := by
  obtain ⟨b, o, s⟩ := a
  have hs : s = none := by simpa [Addr.add] using World.cell?_spot h
  exact ⟨b, o, by rw [hs]⟩

/-- A slice of ints that came in, as the walks take it. -/
theorem ints_in {H : Type} {enc : TypeId × Value → H} {W : World} {a : Option Addr} {len cap fuel : Nat} {x : DataW H × List MemPlace}
    (hf : DataW.trod enc Try.prog W 0 (fun _ => true) true fuel 37 (Value.slice a len cap).cells.toList = some x) :
    ∃ Cr : Nat → Int, IntsAt W a len Cr ∧ (a = none → len = 0) ∧ len ≤ maxLen := by
  rcases open_ints Try.underlying37 Try.underlying3 (by kernel_rfl) hf with ⟨hcs, _⟩ | ⟨ad, l, c, zs, hcs, _, hl, hm, hz, _, hcell, hwz⟩
  · simp [Value.cells] at hcs
    obtain ⟨rfl, rfl, rfl⟩ := hcs
    exact ⟨fun _ => 0, .inl rfl, fun _ => rfl, Nat.zero_le _⟩
  · simp [Value.cells] at hcs
    obtain ⟨rfl, rfl, rfl⟩ := hcs
    simp only [if_true] at hz
    refine ⟨fun i => zs.getD i 0, ?_, by simp, Nat.le_trans hl hm⟩
    by_cases h0 : len = 0
    · exact .inl h0
    · obtain ⟨b, o, rfl⟩ := plain_of_cell (hcell 0 (by omega))
      exact .inr ⟨b, o, rfl, fun i hi => by rw [← add_plain]; exact hcell i (by omega)⟩

theorem rows_in {H : Type} {enc : TypeId × Value → H} {W : World} {a : Option Addr} {len cap fuel : Nat} {x : DataW H × List MemPlace}
    (hf : DataW.trod enc Try.prog W 0 (fun _ => true) true fuel 38 (Value.slice a len cap).cells.toList = some x) :
    ∃ (A : Nat → Option Addr) (L C : Nat → Nat) (S : Nat → Nat → Int), HeadsAt W a len A L C ∧ (a = none → len = 0) ∧ len ≤ maxLen ∧ (∀ r, r < len → L r ≤ maxLen) ∧ ∀ r, r < len → IntsAt W (A r) (L r) (S r) := by
  rcases open_int_rows Try.underlying38 Try.underlying37 Try.underlying3 (by kernel_rfl) (by kernel_rfl) hf with ⟨hcs, _⟩ | ⟨ad, l, c, A, L, C, Z, hcs, _, hl, hm, _, hr⟩
  · simp [Value.cells] at hcs
    obtain ⟨rfl, rfl, rfl⟩ := hcs
    exact ⟨fun _ => none, fun _ => 0, fun _ => 0, fun _ _ => 0, .inl rfl, fun _ => rfl, Nat.zero_le _, fun r hr => by omega, fun r hr => by omega⟩
  · simp [Value.cells] at hcs
    obtain ⟨rfl, rfl, rfl⟩ := hcs
    refine ⟨A, L, C, fun r i => (Z r).getD i 0, ?_, by simp, Nat.le_trans hl hm, fun r h => ?_, fun r h => ?_⟩
    · by_cases h0 : len = 0
      · exact .inl h0
      · obtain ⟨b, o, rfl⟩ := plain_of_cell (hr 0 (by omega)).1
        exact .inr ⟨b, o, rfl, fun i hi => by rw [← add_plain]; exact (hr i (by omega)).1⟩
    · obtain ⟨_, h1, h2, _⟩ := hr r (by omega)
      exact Nat.le_trans h1 h2
    · obtain ⟨_, h1, h2, h3, _, h5, h6⟩ := hr r (by omega)
      by_cases h0 : L r = 0
      · exact .inl h0
      · cases hA : A r with
        | none => have := h5 hA; omega
        | some a' =>
          have h7 := (h6 a' hA).2
          obtain ⟨b, o, rfl⟩ := plain_of_cell (h7 0 (by omega))
          exact .inr ⟨b, o, rfl, fun i hi => by rw [← add_plain]; exact h7 i (by omega)⟩
end Go.Proofs.Qxb6001094a

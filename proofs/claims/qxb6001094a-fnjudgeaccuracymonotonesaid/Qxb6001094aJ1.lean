import Derived.Test.Qxb6001094aBase
namespace Go.Proofs.Qxb6001094a
open Go.RowKit

/-- (*judge).correct: whether process p never crashes. It only reads. -/
theorem correct_any (J b o n cap : Nat) (p end_ x : Int) (w : World) (hn : n ≤ 131072) (h1 : 1 ≤ p) (h2 : p ≤ n)
    (c0 : w.cell? ⟨J, 0, none⟩ = some (.slice (some ⟨b, o, none⟩) n cap)) (c1 : w.cell? ⟨J, 1, none⟩ = some (.int .i64 end_))
    (cx : w.cell? ⟨b, o + (p.toNat - 1), none⟩ = some (.int .i64 x)) :
    Calls Try.prog 47 #[.pointer (some ⟨J, 0, none⟩), .int .i64 p] w fun e w' => e = .returned (.bool (x == end_)) ∧ ∃ m, w' = w.drewN m := by
  have g1 : (0 : Int) ≤ p - 1 := by omega
  have g2 : p - 1 < (n : Int) := by omega
  have hw : IntKind.i64.wrap (p - 1) = p - 1 := by rw [IntKind.wrap_i64]; omega
  go_enter Try.func47, Try.ntmps47
  go_wp2
  go_quiet (fail)
  go_wp2
  go_ret
  exact ⟨rfl, _, rfl⟩
end Go.Proofs.Qxb6001094a

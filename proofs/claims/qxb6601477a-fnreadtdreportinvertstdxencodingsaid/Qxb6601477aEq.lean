import Derived.Test.Qxb6601477aRows
import Derived.WalkKit
namespace Go.Proofs.Qxb6601477a
/-- An array against itself, where each part is equal to itself. -/
theorem equalIn_array_same {P : Program} (w : World) (d : Nat) (t e : TypeId) (n m : Nat) (ht : P.underlying t = some (.array n e)) (hsz : (sizeOf e).run P w = .ok m w) (xs : Array Value)
    (hp : ∀ i, i < n → ∃ v, (part e xs (i * m)).run P w = .ok v w ∧ (Op.equalIn d e v v).run P w = .ok true w) :
    (Op.equalIn (d + 1) t (.agg xs) (.agg xs)).run P w = .ok true w := by
  rw [Op.equalIn]
  simp only [Sem.run_bind, run_underlying ht, Result.andThen_ok, hsz, Std.Legacy.Range.forIn_eq_forIn_range', Std.Legacy.Range.size, Nat.sub_zero, Nat.add_sub_cancel, Nat.div_one]
  have hl : ∀ i ∈ List.range' 0 n 1, i < n := fun i hi => by simpa using (List.mem_range'_1.1 hi).2
  generalize List.range' 0 n 1 = l at hl ⊢
  induction l with
  | nil => simp
  | cons i l ih =>
    obtain ⟨v, h1, h2⟩ := hp i (hl i (by simp))
    simp only [List.forIn_cons, Sem.run_bind, h1, h2, Result.andThen_ok]
    simp only [Bool.not_true, Bool.false_eq_true, if_false, Sem.run_pure, Result.andThen_ok]
    exact ih fun j hj => hl j (by simp [hj])
end Go.Proofs.Qxb6601477a

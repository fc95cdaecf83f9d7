import Derived.Test.Qxb6601477aBytes
namespace Go.Proofs.Qxb6601477a
open Go.ChangeShapes Go.WideShapes Go.ChangeAt Go.RowKit
/-- A slice of bytes that came in, opened. -/
theorem open_src {H : Type} {enc : TypeId × Value → H} {w : World} {base : Nat} {spare : Nat → Bool} {held : Bool} {r : Reach} {b0 : Nat} {v : Value} {d : DataW H} {p : List MemPlace}
    (hv : Value.okWide Try.prog w r b0 22 v) (h : DataW.Trod enc Try.prog w base spare held 22 v d p) :
    ∃ (a : Option Addr) (cap : Nat) (xs : List Int), v = .slice a xs.length cap ∧ Src w a xs ∧ (a = none → xs = [] ∧ cap = 0) ∧ Bytes xs ∧ xs.length ≤ maxLen := by
  obtain ⟨a, len, cap, rfl⟩ := okWide_slice Try.underlying22 hv
  obtain ⟨fuel, hf⟩ := h
  rcases open_ints Try.underlying22 Try.underlying5 (by kernel_rfl) hf with ⟨hcs, _⟩ | ⟨x, l, c, zs, hcs, _, hl, hm, hz, _, hcell, hwz⟩
  · simp [Value.cells] at hcs
    obtain ⟨rfl, rfl, rfl⟩ := hcs
    exact ⟨none, 0, [], rfl, .inl rfl, fun _ => ⟨rfl, rfl⟩, fun j => by simp [at0], Nat.zero_le _⟩
  · simp [Value.cells] at hcs
    obtain ⟨rfl, rfl, rfl⟩ := hcs
    have hz' : len ≤ zs.length := by rw [hz]; split <;> omega
    have hlen : (zs.take len).length = len := by rw [List.length_take]; omega
    refine ⟨some x, cap, zs.take len, by rw [hlen], ?_, fun h => by simp at h, fun j => ?_, by rw [hlen]; omega⟩
    · by_cases h0 : len = 0
      · subst h0; exact .inl (by simp)
      · obtain ⟨b, off, rfl, hc⟩ := ints_at hcell (by omega)
        refine .inr ⟨b, off, rfl, World.block_lt_of_cell? w _ (hc 0 (by omega)), fun k hk => ?_⟩
        rw [hc k (by omega)]
        unfold at0
        simp only [List.getD_eq_getElem?_getD]
        rw [List.getElem?_take_of_lt (by omega)]
    · have := range_u8 hwz j
      unfold at0
      simp only [List.getD_eq_getElem?_getD]
      by_cases hj : j < len
      · rw [List.getElem?_take_of_lt hj]; exact this
      · rw [List.getElem?_eq_none (by omega)]; simp
end Go.Proofs.Qxb6601477a

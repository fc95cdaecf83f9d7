import Derived.Test.Qxb6601477aReach
import Derived.ShutString
import Derived.ChangeOld
namespace Go.Proofs.Qxb6601477a
open Go.ChangeShapes Go.WideShapes Go.ChangeAt Go.RowKit
/-- numbers of a byte -/
def Bytes (a : List Int) : Prop := ∀ j, 0 ≤ at0 a j ∧ at0 a j ≤ 255
/-- An array of bytes, by value, opened: its cells are numbers of a byte. -/
theorem open_u8s {H : Type} {enc : TypeId × Value → H} {P : Program} {w : World} {base : Nat} {spare : Nat → Bool} {held : Bool} {r : Reach} {b0 : Nat} {t e : TypeId} {n : Nat} {v : Value} {d : DataW H} {p : List MemPlace}
    (ht : P.underlying t = some (.array n e)) (he : P.underlying e = some (.int .u8)) (hce : P.cellsOf e = 1) (hct : P.cellsOf t = n)
    (hv : Value.okWide P w r b0 t v) (h : DataW.Trod enc P w base spare held t v d p) : ∃ xs : List Int, v = .agg (u8s xs) ∧ xs.length = n ∧ Bytes xs := by
  obtain ⟨cs, rfl, hsz⟩ : ∃ cs, v = .agg cs ∧ cs.size = P.cellsOf t := by
    simp only [Value.okWide, ht] at hv
    obtain ⟨cs, h1, h2, _⟩ := hv
    exact ⟨cs, h1, h2⟩
  rw [hct] at hsz
  obtain ⟨fuel, hf⟩ := h
  obtain ⟨ys, m, _, _, hlen, hl, hel⟩ := DataW.trod_array ht hf
  have each : ∀ i, i < n → ∃ x : Int, cs[i]? = some (.int .u8 x) ∧ (Lit.int .u8 x).wf = true := fun i hi => by
    have h1 := hel i hi
    rw [hce, List.getElem?_eq_getElem (by omega)] at h1
    obtain ⟨x, e0, _, wx⟩ := DataW.trod_int he h1
    refine ⟨x, ?_, wx⟩
    have hi' : i < cs.toList.length := by simpa [hsz] using hi
    simp only [Value.cells, Nat.mul_one] at e0
    rw [List.drop_eq_getElem_cons hi'] at e0
    simp at e0
    rw [Array.getElem?_eq_getElem (by omega)]
    exact congrArg some e0
  refine ⟨cs.toList.map intOf, ?_, by simpa using hsz, fun j => ?_⟩
  · congr 1
    refine Array.ext (by simp [u8s]) (fun i h1 h2 => ?_)
    obtain ⟨x, hx, _⟩ := each i (by omega)
    have : cs[i] = .int .u8 x := by
      rw [Array.getElem?_eq_getElem h1] at hx
      exact Option.some.inj hx
    simp [u8s, this, intOf]
  · by_cases hj : j < n
    · obtain ⟨x, hx, wx⟩ := each j hj
      have : at0 (cs.toList.map intOf) j = x := by simp [at0, hx, intOf]
      rw [this]
      exact bounds_u8 wx
    · have : at0 (cs.toList.map intOf) j = 0 := by
        simp [at0, Array.getElem?_eq_none (by omega : cs.size ≤ j)]
      rw [this]; omega
theorem cells28 : Try.prog.cellsOf 28 = 16 := by kernel_rfl
theorem cells5 : Try.prog.cellsOf 5 = 1 := by kernel_rfl
end Go.Proofs.Qxb6601477a

import Derived.Test.Qxb6601477aOpen
namespace Go.Proofs.Qxb6601477a
open Go.ChangeShapes Go.WideShapes Go.ChangeAt Go.RowKit
section
variable {H : Type} {enc : TypeId × Value → H} {w : World} {base : Nat} {spare : Nat → Bool} {held : Bool}
theorem row_ints {t n m : Nat} {cs : List Value} {y : DataW H × List MemPlace} (ht : Try.prog.underlying t = some (.array n 5))
    (h : DataW.trod enc Try.prog w base spare held m t cs = some y) : ∀ j, j < n → ∃ x : Int, cs[j]? = some (.int .u8 x) := by
  obtain ⟨ys, m', _, _, _, hl, hel⟩ := DataW.trod_array ht h
  intro j hj
  have h1 := hel j hj
  rw [cells5, List.getElem?_eq_getElem (by omega)] at h1
  obtain ⟨x, e0, _, _⟩ := DataW.trod_int Try.underlying5 h1
  refine ⟨x, ?_⟩
  rw [Nat.mul_one] at e0
  have e1 : (List.take 1 (List.drop j cs))[0]? = some (.int .u8 x) := by rw [e0]; rfl
  rw [List.getElem?_take_of_lt (by omega), List.getElem?_drop] at e1
  exact e1
theorem cells29 : Try.prog.cellsOf 29 = 48 := by kernel_rfl
theorem rows_ints {m : Nat} {cs : List Value} {y : DataW H × List MemPlace} (h : DataW.trod enc Try.prog w base spare held m 31 cs = some y) : ∀ j, j < 192 → ∃ x : Int, cs[j]? = some (.int .u8 x) := by
  obtain ⟨ys, m', _, _, _, hl, hel⟩ := DataW.trod_array Try.underlying31 h
  intro j hj
  have h1 := hel (j / 48) (by omega)
  rw [cells29, List.getElem?_eq_getElem (by omega)] at h1
  obtain ⟨x, hx⟩ := row_ints Try.underlying29 h1 (j % 48) (by omega)
  rw [List.getElem?_take_of_lt (by omega), List.getElem?_drop] at hx
  refine ⟨x, ?_⟩
  rw [← hx]
  congr 1
  omega
theorem part_ints {off n : Nat} {cs : List Value} (h : ∀ j, j < n → ∃ x : Int, ((cs.drop off).take n)[j]? = some (.int .u8 x)) : ∀ i, off ≤ i → i < off + n → ∃ x : Int, cs[i]? = some (.int .u8 x) := by
  intro i h1 h2
  obtain ⟨x, hx⟩ := h (i - off) (by omega)
  rw [List.getElem?_take_of_lt (by omega), List.getElem?_drop] at hx
  refine ⟨x, ?_⟩
  rw [← hx]
  congr 1
  omega
theorem cells_all : Try.prog.cellsOf 28 = 16 ∧ Try.prog.cellsOf 29 = 48 ∧ Try.prog.cellsOf 30 = 8 ∧ Try.prog.cellsOf 31 = 192 ∧ Try.prog.cellsOf 32 = 64 ∧ Try.prog.cellsOf 35 = 584 := ⟨by kernel_rfl, by kernel_rfl, by kernel_rfl, by kernel_rfl, by kernel_rfl, by kernel_rfl⟩
theorem get_some {xs : List (DataW H × List MemPlace)} {k : Nat} (h : k < xs.length) : ∃ y, xs[k]? = some y := ⟨_, List.getElem?_eq_getElem h⟩
/-- The struct of byte arrays, by value, opened. -/
theorem open_td {r : Reach} {b0 : Nat} {v : Value} {d : DataW H} {p : List MemPlace} (hv : Value.okWide Try.prog w r b0 35 v) (h : DataW.Trod enc Try.prog w base spare held 35 v d p) :
    ∃ fs : List Int, v = .agg (u8s fs) ∧ fs.length = 584 := by
  obtain ⟨z28, z29, z30, z31, z32, z35⟩ := cells_all
  obtain ⟨cs, rfl, hsz⟩ := okWide_struct Try.underlying35 hv
  rw [z35] at hsz
  obtain ⟨fuel, hf⟩ := h
  obtain ⟨xs, m, _, _, _, hl, hel⟩ := DataW.trod_struct Try.underlying35 hf
  have hl' : xs.length = 12 := hl
  have hc : (Value.agg cs).cells.toList = cs.toList := rfl
  rw [hc] at hel
  have f0 : DataW.trod enc Try.prog w base spare held m 28 ((cs.toList.drop 0).take (Try.prog.cellsOf 28)) = xs[0]? := hel 0 _ rfl
  obtain ⟨y0, g0⟩ := get_some (xs := xs) (k := 0) (by omega)
  rw [g0, z28] at f0
  have i0 := part_ints (off := 0) (n := 16) (row_ints Try.underlying28 f0)
  have f1 : DataW.trod enc Try.prog w base spare held m 29 ((cs.toList.drop 16).take (Try.prog.cellsOf 29)) = xs[1]? := hel 1 _ rfl
  obtain ⟨y1, g1⟩ := get_some (xs := xs) (k := 1) (by omega)
  rw [g1, z29] at f1
  have i1 := part_ints (off := 16) (n := 48) (row_ints Try.underlying29 f1)
  have f2 : DataW.trod enc Try.prog w base spare held m 29 ((cs.toList.drop 64).take (Try.prog.cellsOf 29)) = xs[2]? := hel 2 _ rfl
  obtain ⟨y2, g2⟩ := get_some (xs := xs) (k := 2) (by omega)
  rw [g2, z29] at f2
  have i2 := part_ints (off := 64) (n := 48) (row_ints Try.underlying29 f2)
  have f3 : DataW.trod enc Try.prog w base spare held m 30 ((cs.toList.drop 112).take (Try.prog.cellsOf 30)) = xs[3]? := hel 3 _ rfl
  obtain ⟨y3, g3⟩ := get_some (xs := xs) (k := 3) (by omega)
  rw [g3, z30] at f3
  have i3 := part_ints (off := 112) (n := 8) (row_ints Try.underlying30 f3)
  have f4 : DataW.trod enc Try.prog w base spare held m 30 ((cs.toList.drop 120).take (Try.prog.cellsOf 30)) = xs[4]? := hel 4 _ rfl
  obtain ⟨y4, g4⟩ := get_some (xs := xs) (k := 4) (by omega)
  rw [g4, z30] at f4
  have i4 := part_ints (off := 120) (n := 8) (row_ints Try.underlying30 f4)
  have f5 : DataW.trod enc Try.prog w base spare held m 30 ((cs.toList.drop 128).take (Try.prog.cellsOf 30)) = xs[5]? := hel 5 _ rfl
  obtain ⟨y5, g5⟩ := get_some (xs := xs) (k := 5) (by omega)
  rw [g5, z30] at f5
  have i5 := part_ints (off := 128) (n := 8) (row_ints Try.underlying30 f5)
  have f6 : DataW.trod enc Try.prog w base spare held m 29 ((cs.toList.drop 136).take (Try.prog.cellsOf 29)) = xs[6]? := hel 6 _ rfl
  obtain ⟨y6, g6⟩ := get_some (xs := xs) (k := 6) (by omega)
  rw [g6, z29] at f6
  have i6 := part_ints (off := 136) (n := 48) (row_ints Try.underlying29 f6)
  have f7 : DataW.trod enc Try.prog w base spare held m 29 ((cs.toList.drop 184).take (Try.prog.cellsOf 29)) = xs[7]? := hel 7 _ rfl
  obtain ⟨y7, g7⟩ := get_some (xs := xs) (k := 7) (by omega)
  rw [g7, z29] at f7
  have i7 := part_ints (off := 184) (n := 48) (row_ints Try.underlying29 f7)
  have f8 : DataW.trod enc Try.prog w base spare held m 29 ((cs.toList.drop 232).take (Try.prog.cellsOf 29)) = xs[8]? := hel 8 _ rfl
  obtain ⟨y8, g8⟩ := get_some (xs := xs) (k := 8) (by omega)
  rw [g8, z29] at f8
  have i8 := part_ints (off := 232) (n := 48) (row_ints Try.underlying29 f8)
  have f9 : DataW.trod enc Try.prog w base spare held m 29 ((cs.toList.drop 280).take (Try.prog.cellsOf 29)) = xs[9]? := hel 9 _ rfl
  obtain ⟨y9, g9⟩ := get_some (xs := xs) (k := 9) (by omega)
  rw [g9, z29] at f9
  have i9 := part_ints (off := 280) (n := 48) (row_ints Try.underlying29 f9)
  have f10 : DataW.trod enc Try.prog w base spare held m 31 ((cs.toList.drop 328).take (Try.prog.cellsOf 31)) = xs[10]? := hel 10 _ rfl
  obtain ⟨y10, g10⟩ := get_some (xs := xs) (k := 10) (by omega)
  rw [g10, z31] at f10
  have i10 := part_ints (off := 328) (n := 192) (rows_ints f10)
  have f11 : DataW.trod enc Try.prog w base spare held m 32 ((cs.toList.drop 520).take (Try.prog.cellsOf 32)) = xs[11]? := hel 11 _ rfl
  obtain ⟨y11, g11⟩ := get_some (xs := xs) (k := 11) (by omega)
  rw [g11, z32] at f11
  have i11 := part_ints (off := 520) (n := 64) (row_ints Try.underlying32 f11)
  have each : ∀ i, i < 584 → ∃ x : Int, cs.toList[i]? = some (.int .u8 x) := fun i hi => by
    by_cases c0 : i < 16
    · exact i0 i (by omega) c0
    by_cases c1 : i < 64
    · exact i1 i (by omega) c1
    by_cases c2 : i < 112
    · exact i2 i (by omega) c2
    by_cases c3 : i < 120
    · exact i3 i (by omega) c3
    by_cases c4 : i < 128
    · exact i4 i (by omega) c4
    by_cases c5 : i < 136
    · exact i5 i (by omega) c5
    by_cases c6 : i < 184
    · exact i6 i (by omega) c6
    by_cases c7 : i < 232
    · exact i7 i (by omega) c7
    by_cases c8 : i < 280
    · exact i8 i (by omega) c8
    by_cases c9 : i < 328
    · exact i9 i (by omega) c9
    by_cases c10 : i < 520
    · exact i10 i (by omega) c10
    exact i11 i (by omega) (by omega)
  refine ⟨cs.toList.map intOf, ?_, by simpa using hsz⟩
  congr 1
  refine Array.ext (by simp [u8s]) (fun i h1 h2 => ?_)
  obtain ⟨x, hx⟩ := each i (by omega)
  have : cs[i] = .int .u8 x := by
    rw [Array.getElem?_toList, Array.getElem?_eq_getElem h1] at hx
    exact Option.some.inj hx
  simp [u8s, this, intOf]
end
end Go.Proofs.Qxb6601477a

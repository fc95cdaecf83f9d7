import Derived.Test.Qxb6601477aTdMain
namespace Go.Proofs.Qxb6601477a
open Go.ChangeShapes Go.WideShapes Go.ChangeAt Go.RowKit
theorem zzreadTD (p : Option Addr) (cap : Nat) (xs : List Int) (w : World) (h : Src w p xs) (hc : xs.length ≤ cap) :
    Calls Try.prog 13 #[.slice p xs.length cap] w fun e w' => ∃ ys, e = .returned (.pointer (some ⟨w.heap.size, 0, none⟩)) ∧ w'.heap[w.heap.size]? = some (.cells (u8s ys) 34) ∧ Rep xs ys 15 ∧ Below w.heap.size w w' := by
  go_enter Try.func13, Try.ntmps13
  go_wp2_with (go_at_call 22; refine (readTD _ _ _ _ h hc).mono ?_; rintro e w' ⟨ys, rfl, h1, h2, h3⟩)
  go_ret
  exact ⟨ys, rfl, h1, h2, h3⟩
theorem Drawn.heap {w w' : World} (hd : Drawn w w') {g : Nat} {o : Obj} (h : w.heap[g]? = some o) : w'.heap[g]? = some o := by
  obtain ⟨n, rfl⟩ := hd
  exact h
theorem Drawn.below {a w w' : World} {B : Nat} (hd : Drawn w w') (h : Below B a w) : Below B a w' := by
  obtain ⟨n, rfl⟩ := hd
  exact below_drewN h n
/-- A field of the report, against the bytes. -/
theorem field_call (G : Nat) (ys xs : List Int) (p : Option Addr) (cap off n : Nat) (z : Int) (w : World) (hG : w.heap[G]? = some (.cells (u8s ys) 34)) (hrep : Rep xs ys 15) (hsrc : Src w p xs) (hl : xs.length ≤ 2097152)
    (hfit : off + n ≤ 584) (hz : z = (off : Int)) :
    Calls Try.prog 14 #[.slice (some ⟨G, off, none⟩) n n, .slice p xs.length cap, .int .i64 z] w fun e w' => e = .returned (.bool true) ∧ Drawn w w' := by
  subst hz
  obtain ⟨h1, h2, _⟩ := hrep
  have hlen : ((ys.drop off).take n).length = n := by rw [List.length_take, List.length_drop]; omega
  have hat : ∀ j, j < n → at0 ((ys.drop off).take n) j = at0 ys (off + j) := fun j hj => by
    unfold at0
    simp only [List.getD_eq_getElem?_getD]
    rw [List.getElem?_take_of_lt hj, List.getElem?_drop]
  have hs : Src w (some ⟨G, off, none⟩) ((ys.drop off).take n) := .inr ⟨G, off, rfl, lt_of_heap hG, fun j hj => by
    rw [hlen] at hj
    rw [cell_of_row _ _ _ _ _ _ hG, u8s_get ys (off + j) (by omega), hat j hj]⟩
  have := fieldIs_any (some ⟨G, off, none⟩) p n cap ((ys.drop off).take n) xs off w hs hsrc hl (by omega) (by omega) (fun j hj => by
    rw [hlen] at hj
    rw [hat j hj]; exact h2 (off + j) (by show off + j < 584; omega))
  rw [hlen] at this
  exact this
theorem eql_ptr (w : World) (a : Addr) : (binOp .eql 25 (.pointer (some a)) (.pointer none)).run Try.prog w = .ok (.bool false) w := by kernel_rfl
set_option maxHeartbeats 400000 in
theorem bytes11 (p0 : Option Addr) (c0 n0 : Nat) (w : World) (h0 : n0 ≤ maxLen) :
    Calls Try.prog 11 #[.slice p0 n0 c0] w fun e w' => (∃ r, e = .returned (.bool r)) ∧ w' = w := by
  unfold maxLen at h0
  go_enter Try.func11, Try.ntmps11
  go_wp2
  all_goals
    go_ret
    exact ⟨⟨_, rfl⟩, rfl⟩
set_option maxHeartbeats 8000000 in
set_option maxRecDepth 100000 in
theorem law3 (pa : Option Addr) (ca : Nat) (a : List Int) (w : World) (ha : Src w pa a) (na : pa = none → a = [] ∧ ca = 0) (la : a.length ≤ maxLen) :
    Calls Try.prog 3 #[.slice pa a.length ca] w fun e w' => e = .returned (.bool true) ∧ Below w.heap.size w w' := by
  have hz := bytes11 pa ca a.length w la
  unfold maxLen at la
  by_cases g : a.length ≤ 1048576
  · go_enter Try.func3, Try.ntmps3
    go_wp2_with fail
    refine hz.mono ?_
    clear hz
    rintro e w' ⟨⟨r, rfl⟩, rfl⟩
    cases r
    · go_wp2_with fail
      go_ret
      exact ⟨rfl, Below.refl _ _⟩
    · go_wp2_with fail
      refine (clone_any _ _ _ _ ha na (by omega)).mono ?_
      rintro e w1 ⟨qa, rfl, oa, b1⟩
      replace oa := oa.src
      clear ha na
      go_wp2_with fail
      refine (zzreadTD _ _ _ _ oa (Nat.le_refl _)).mono ?_
      rintro e w2 ⟨ys, rfl, hG, hrep, b2⟩
      replace oa := oa.below b2
      replace b1 := b1.trans (b2.mono b1.size)
      have hnp := eql_ptr
      have hl : a.length ≤ 2097152 := by omega
      clear b2
      generalize w1.heap.size = G at *
      go_wp2_with ((go_at_call 14; refine (field_call _ _ _ _ _ _ _ _ _ hG hrep oa hl (by omega) (by rfl)).mono ?_; rintro e w' ⟨rfl, hd⟩; replace hG := hd.heap hG; replace oa := hd.src oa; replace b1 := hd.below b1; clear hd))
      go_ret
      exact ⟨rfl, b1⟩
  · go_enter Try.func3, Try.ntmps3
    go_wp2_with fail
    refine hz.mono ?_
    clear hz
    rintro e w' ⟨⟨r, rfl⟩, rfl⟩
    cases r
    · go_wp2_with fail
      go_ret
      exact ⟨rfl, Below.refl _ _⟩
    · go_wp2_with fail
      all_goals first | (go_ret; exact ⟨rfl, Below.refl _ _⟩) | (exfalso; omega)
end Go.Proofs.Qxb6601477a

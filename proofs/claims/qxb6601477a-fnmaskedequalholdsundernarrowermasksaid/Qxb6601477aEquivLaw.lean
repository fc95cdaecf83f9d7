import Derived.Test.Qxb6601477aMask
namespace Go.Proofs.Qxb6601477a
open Go.ChangeShapes Go.WideShapes Go.ChangeAt Go.RowKit
theorem Src.drewN' {w : World} {p : Option Addr} {xs : List Int} (h : Src w p xs) (n : Nat) : Src (w.drewN n) p xs := h
theorem mEq_refl (a m : List Int) (n : Nat) : mEq a a m n = true := (mEq_iff _ _ _ _).2 fun _ _ => rfl
theorem mEq_symm (a b m : List Int) (n : Nat) : mEq b a m n = mEq a b m n := by
  rw [Bool.eq_iff_iff, mEq_iff, mEq_iff]
  exact ⟨fun h j hj => (h j hj).symm, fun h j hj => (h j hj).symm⟩
theorem mEq_trans {a b c m : List Int} {n : Nat} (h1 : mEq a b m n = true) (h2 : mEq b c m n = true) : mEq a c m n = true :=
  (mEq_iff _ _ _ _).2 fun j hj => ((mEq_iff _ _ _ _).1 h1 j hj).trans ((mEq_iff _ _ _ _).1 h2 j hj)
set_option maxHeartbeats 400000 in
theorem bytes20 (p0 p1 p2 p3 : Option Addr) (c0 c1 c2 c3 n0 n1 n2 n3 : Nat) (w : World) (h0 : n0 ≤ maxLen) (h1 : n1 ≤ maxLen) (h2 : n2 ≤ maxLen) (h3 : n3 ≤ maxLen) :
    Calls Try.prog 20 #[.slice p0 n0 c0, .slice p1 n1 c1, .slice p2 n2 c2, .slice p3 n3 c3] w fun e w' => (∃ r, e = .returned (.bool r)) ∧ w' = w := by
  unfold maxLen at h0 h1 h2 h3
  go_enter Try.func20, Try.ntmps20
  go_wp2
  all_goals
    go_ret
    exact ⟨⟨_, rfl⟩, rfl⟩
set_option maxHeartbeats 1000000 in
/-- behind the clones: the calls of maskedEqual, whatever they answer -/
theorem law9 (pa pb pc pm : Option Addr) (ca cb cc cm : Nat) (a b c m : List Int) (w : World) (ha : Src w pa a) (hb : Src w pb b) (hc : Src w pc c) (hm : Src w pm m)
    (na : pa = none → a = [] ∧ ca = 0) (nb : pb = none → b = [] ∧ cb = 0) (nc : pc = none → c = [] ∧ cc = 0) (nm : pm = none → m = [] ∧ cm = 0) (la : a.length ≤ maxLen) (lb : b.length ≤ maxLen) (lc : c.length ≤ maxLen) (lm : m.length ≤ maxLen) :
    Calls Try.prog 9 #[.slice pa a.length ca, .slice pb b.length cb, .slice pc c.length cc, .slice pm m.length cm] w fun e w' => e = .returned (.bool true) ∧ Below w.heap.size w w' := by
  have hz := bytes20 pa pb pc pm ca cb cc cm a.length b.length c.length m.length w la lb lc lm
  unfold maxLen at la lb lc lm
  by_cases g : a.length ≤ 65536 ∧ b.length ≤ 65536 ∧ c.length ≤ 65536 ∧ m.length ≤ 65536 ∧ m.length ≤ a.length ∧ m.length ≤ b.length ∧ m.length ≤ c.length
  · obtain ⟨g1, g2, g2', g3, g4, g5, g6⟩ := g
    go_enter Try.func9, Try.ntmps9
    go_wp2_with fail
    refine hz.mono ?_
    clear hz
    rintro e w' ⟨⟨r, rfl⟩, rfl⟩
    cases r
    · go_wp2_with fail
      go_ret
      exact ⟨rfl, Below.refl _ _⟩
    · go_wp2_with fail
      refine (clone_any _ _ _ _ ha na (by omega)).mono ?_
      rintro e w1 ⟨qa, rfl, oa, b1⟩
      replace hb := hb.below b1
      replace hc := hc.below b1
      replace hm := hm.below b1
      clear ha na
      go_wp2_with fail
      refine (clone_any _ _ _ _ hb nb (by omega)).mono ?_
      rintro e w2 ⟨qb, rfl, ob, b2⟩
      replace hc := hc.below b2
      replace hm := hm.below b2
      replace oa := oa.below b2
      replace b1 := b1.trans (b2.mono b1.size)
      clear hb nb b2
      go_wp2_with fail
      refine (clone_any _ _ _ _ hc nc (by omega)).mono ?_
      rintro e w3 ⟨qc, rfl, oc, b3⟩
      replace hm := hm.below b3
      replace oa := oa.below b3
      replace ob := ob.below b3
      replace b1 := b1.trans (b3.mono b1.size)
      clear hc nc b3
      go_wp2_with fail
      refine (clone_any _ _ _ _ hm nm (by omega)).mono ?_
      rintro e w4 ⟨qm, rfl, om, b4⟩
      replace oa := (oa.below b4).src
      replace ob := (ob.below b4).src
      replace oc := (oc.below b4).src
      replace om := om.src
      replace b1 := b1.trans (b4.mono b1.size)
      clear hm nm b4
      have r1 := mEq_refl a m m.length
      have r2 := mEq_symm a b m m.length
      go_wp2_with fail
      refine (zzmasked_any _ _ _ _ _ _ _ _ _ _ oa oa om g4 g4 (by omega)).mono ?_
      rintro e w' ⟨rfl, n1, rfl⟩
      go_wp2_with fail
      refine (zzmasked_any _ _ _ _ _ _ _ _ _ _ (oa.drewN' _) (ob.drewN' _) (om.drewN' _) g4 g5 (by omega)).mono ?_
      rintro e w' ⟨rfl, n2, rfl⟩
      cases e1 : mEq a b m m.length
      · rw [e1] at r2
        go_wp2_with fail
        refine (zzmasked_any _ _ _ _ _ _ _ _ _ _ (ob.drewN' _) (oa.drewN' _) (om.drewN' _) g5 g4 (by omega)).mono ?_
        rintro e w' ⟨rfl, n3, rfl⟩
        go_wp2_with fail
        go_ret
        exact ⟨rfl, below_drewN b1 _⟩
      · rw [e1] at r2
        go_wp2_with fail
        refine (zzmasked_any _ _ _ _ _ _ _ _ _ _ (ob.drewN' _) (oa.drewN' _) (om.drewN' _) g5 g4 (by omega)).mono ?_
        rintro e w' ⟨rfl, n3, rfl⟩
        go_wp2_with fail
        refine (zzmasked_any _ _ _ _ _ _ _ _ _ _ (ob.drewN' _) (oc.drewN' _) (om.drewN' _) g5 g6 (by omega)).mono ?_
        rintro e w' ⟨rfl, n4, rfl⟩
        cases e2 : mEq b c m m.length
        · go_wp2_with fail
          go_ret
          exact ⟨rfl, below_drewN b1 _⟩
        · have r3 := mEq_trans e1 e2
          go_wp2_with fail
          refine (zzmasked_any _ _ _ _ _ _ _ _ _ _ (oa.drewN' _) (oc.drewN' _) (om.drewN' _) g4 g6 (by omega)).mono ?_
          rintro e w' ⟨rfl, n5, rfl⟩
          go_wp2_with fail
          go_ret
          exact ⟨rfl, below_drewN b1 _⟩
  · go_enter Try.func9, Try.ntmps9
    go_wp2_with fail
    refine hz.mono ?_
    clear hz
    rintro e w' ⟨⟨r, rfl⟩, rfl⟩
    cases r
    · go_wp2_with fail
      go_ret
      exact ⟨rfl, Below.refl _ _⟩
    · go_wp2_with fail
      all_goals first | (go_ret; exact ⟨rfl, Below.refl _ _⟩) | (exfalso; omega)
end Go.Proofs.Qxb6601477a

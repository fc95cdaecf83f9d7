import Derived.Test.Qxb6601477aXor
namespace Go.Proofs.Qxb6601477a
open Go.ChangeShapes Go.WideShapes Go.ChangeAt Go.RowKit
theorem Src.drewN {w : World} {p : Option Addr} {xs : List Int} (h : Src w p xs) (n : Nat) : Src (w.drewN n) p xs := h
theorem Own.drewN {w : World} {p : Option Addr} {xs : List Int} (h : Own w p xs) (n : Nat) : Own (w.drewN n) p xs := h
set_option maxHeartbeats 1000000 in
theorem law8 (pa pb pm : Option Addr) (ca cb cm : Nat) (a b m : List Int) (w : World) (ha : Src w pa a) (hb : Src w pb b) (hm : Src w pm m)
    (na : pa = none → a = [] ∧ ca = 0) (nb : pb = none → b = [] ∧ cb = 0) (nm : pm = none → m = [] ∧ cm = 0) (la : a.length ≤ maxLen) (lb : b.length ≤ maxLen) (lm : m.length ≤ maxLen) :
    Calls Try.prog 8 #[.slice pa a.length ca, .slice pb b.length cb, .slice pm m.length cm] w fun e w' => e = .returned (.bool true) ∧ Below w.heap.size w w' := by
  have hz := bytes18 pa pb pm ca cb cm a.length b.length m.length w la lb lm
  unfold maxLen at la lb lm
  by_cases g : a.length ≤ 65536 ∧ b.length ≤ 65536 ∧ m.length ≤ 65536 ∧ m.length ≤ a.length ∧ m.length ≤ b.length
  · obtain ⟨g1, g2, g3, g4, g5⟩ := g
    have HZ := hz
    clear hz
    go_enter Try.func8, Try.ntmps8
    go_wp2_with fail
    refine HZ.mono ?_
    clear HZ
    rintro e w' ⟨⟨r, rfl⟩, rfl⟩
    cases r
    · go_wp2_with fail
      go_ret
      exact ⟨rfl, Below.refl _ _⟩
    · go_wp2_with fail
      refine (clone_any _ _ _ _ ha na (by omega)).mono ?_
      rintro e w1 ⟨qa, rfl, oa, b1⟩
      replace hb := hb.below b1
      replace hm := hm.below b1
      clear ha na
      go_wp2_with fail
      refine (clone_any _ _ _ _ hb nb (by omega)).mono ?_
      rintro e w2 ⟨qb, rfl, ob, b2⟩
      replace hm := hm.below b2
      replace oa := oa.below b2
      replace b1 := b1.trans (b2.mono b1.size)
      clear hb nb b2
      go_wp2_with fail
      refine (clone_any _ _ _ _ hm nm (by omega)).mono ?_
      rintro e w3 ⟨qm, rfl, om, b3⟩
      replace oa := oa.below b3
      replace ob := ob.below b3
      replace b1 := b1.trans (b3.mono b1.size)
      clear hm nm b3
      go_wp2_with fail
      go_loopw [7, 8] (fun s i wr => ∃ k n : Nat, k ≤ m.length ∧ i = .int .i64 k ∧ s = .int .u8 (accV a b m k) ∧ wr = w3.drewN n) (fun _ i _ => m.length - (intOf i).toNat)
      case atStart => exact ⟨0, 0, Nat.zero_le _, rfl, rfl, rfl⟩
      case round =>
        obtain ⟨k, n, hk, rfl, rfl, rfl⟩ := hrel
        by_cases hlt : k < m.length
        · rcases oa.src with h | ⟨B1, o1, rfl, _, c1⟩
          · subst h; simp only [List.length_nil] at g4; omega
          rcases ob.src with h | ⟨B2, o2, rfl, _, c2⟩
          · subst h; simp only [List.length_nil] at g5; omega
          rcases om.src with h | ⟨B3, o3, rfl, _, c3⟩
          · subst h; simp at hlt
          replace c1 := c1 k (by omega)
          replace c2 := c2 k (by omega)
          replace c3 := c3 k hlt
          clear oa ob om
          have hk0 : (0 : Int) ≤ (k : Int) := by omega
          have hk1 : (k : Int) < (a.length : Int) := by omega
          have hk2 : (k : Int) < (b.length : Int) := by omega
          have hk3 : (k : Int) < (m.length : Int) := by omega
          go_wp2
          go_quiet (fail)
          go_wp2
          go_roundw
          case rel => exact ⟨k + 1, _, by omega, by go_num, rfl, rfl⟩
          case measure => simp [intOf]; omega
        · obtain rfl : k = m.length := by omega
          have T := acc_test a b m m.length
          go_wp2_with (go_at_call 19; refine (zzmasked_any _ _ _ _ _ _ _ _ _ _ (oa.src.drewN _) (ob.src.drewN _) (om.src.drewN _) g4 g5 (by omega)).mono ?_; rintro e w' ⟨rfl, n', rfl⟩)
          go_ret
          exact ⟨rfl, below_drewN b1 _⟩
  · go_enter Try.func8, Try.ntmps8
    go_wp2_with fail
    refine hz.mono ?_
    clear hz
    rintro e w' ⟨⟨r, rfl⟩, rfl⟩
    cases r
    · go_wp2_with fail
      go_ret
      exact ⟨rfl, Below.refl _ _⟩
    · go_wp2_with fail
      all_goals first | (go_ret; exact ⟨rfl, Below.refl _ _⟩) | (exfalso; omega)
end Go.Proofs.Qxb6601477a

import Derived.Test.Qxb6601477aBytes
namespace Go.Proofs.Qxb6601477a
open Go.ChangeShapes Go.WideShapes Go.ChangeAt Go.RowKit
/-- the first n bytes of a and b agree under m -/
def mEq (a b m : List Int) : Nat → Bool
  | 0 => true
  | n + 1 => mEq a b m n && (bits .and .u8 (at0 a n) (at0 m n) == bits .and .u8 (at0 b n) (at0 m n))
theorem mEq_iff (a b m : List Int) : ∀ n, mEq a b m n = true ↔ ∀ j, j < n → bits .and .u8 (at0 a j) (at0 m j) = bits .and .u8 (at0 b j) (at0 m j)
  | 0 => by simp [mEq]
  | n + 1 => by
    rw [mEq, Bool.and_eq_true, mEq_iff a b m n, beq_iff_eq]
    constructor
    · rintro ⟨h, h'⟩ j hj
      by_cases e : j = n
      · subst e; exact h'
      · exact h j (by omega)
    · exact fun h => ⟨fun j hj => h j (by omega), h n (by omega)⟩
theorem mEq_false {a b m : List Int} {k n : Nat} (hk : k < n) (h : ¬ bits .and .u8 (at0 a k) (at0 m k) = bits .and .u8 (at0 b k) (at0 m k)) : mEq a b m n = false := by
  cases e : mEq a b m n with
  | false => rfl
  | true => exact absurd ((mEq_iff _ _ _ _).1 e k hk) h
set_option maxHeartbeats 400000 in
theorem masked_any (pa pb pm : Option Addr) (ca cb cm : Nat) (a b m : List Int) (w : World) (ha : Src w pa a) (hb : Src w pb b) (hm : Src w pm m) (h1 : m.length ≤ a.length) (h2 : m.length ≤ b.length) (hl : m.length ≤ 1048576) :
    Calls Try.prog 25 #[.slice pa a.length ca, .slice pb b.length cb, .slice pm m.length cm] w fun e w' => e = .returned (.bool (mEq a b m m.length)) ∧ ∃ n, w' = w.drewN n := by
  go_enter Try.func25, Try.ntmps25
  go_wp2
  go_loopw [10] (fun i wr => ∃ k n : Nat, k ≤ m.length ∧ i = .int .i64 k ∧ Hid (mEq a b m k = true) ∧ wr = w.drewN n) (fun i _ => m.length - (intOf i).toNat)
  case atStart => exact ⟨0, 0, Nat.zero_le _, rfl, rfl, rfl⟩
  case round =>
    obtain ⟨k, n, hk, rfl, HG, rfl⟩ := hrel
    by_cases hlt : k < m.length
    · rcases ha with ha | ⟨b1, o1, rfl, _, c1⟩
      · subst ha; simp only [List.length_nil] at h1; omega
      rcases hb with hb | ⟨b2, o2, rfl, _, c2⟩
      · subst hb; simp only [List.length_nil] at h2; omega
      rcases hm with hm | ⟨b3, o3, rfl, _, c3⟩
      · subst hm; simp at hlt
      replace c1 := c1 k (by omega)
      replace c2 := c2 k (by omega)
      replace c3 := c3 k hlt
      have hk0 : (0 : Int) ≤ (k : Int) := by omega
      have hk1 : (k : Int) < (a.length : Int) := by omega
      have hk2 : (k : Int) < (b.length : Int) := by omega
      have hk3 : (k : Int) < (m.length : Int) := by omega
      go_wp2
      go_quiet (fail)
      go_wp2
      · go_ret
        have ht : (bits .and .u8 (at0 a k) (at0 m k) != bits .and .u8 (at0 b k) (at0 m k)) = true := by assumption
        exact ⟨by rw [mEq_false hlt (by simpa using ht)]; rfl, n + nq, World.drewN_drewN _ _ _⟩
      · have ht : (bits .and .u8 (at0 a k) (at0 m k) != bits .and .u8 (at0 b k) (at0 m k)) = false := by assumption
        go_roundw
        case rel => exact ⟨k + 1, _, by omega, by go_num, (by show mEq a b m (k + 1) = true; rw [mEq, HG.out]; simpa using ht), rfl⟩
        case measure => simp [intOf]; omega
    · obtain rfl : k = m.length := by omega
      go_wp2
      go_ret
      exact ⟨by rw [HG.out]; rfl, _, rfl⟩
set_option maxHeartbeats 400000 in
theorem zzmasked_any (pa pb pm : Option Addr) (ca cb cm : Nat) (a b m : List Int) (w : World) (ha : Src w pa a) (hb : Src w pb b) (hm : Src w pm m) (h1 : m.length ≤ a.length) (h2 : m.length ≤ b.length) (hl : m.length ≤ 1048576) :
    Calls Try.prog 19 #[.slice pa a.length ca, .slice pb b.length cb, .slice pm m.length cm] w fun e w' => e = .returned (.bool (mEq a b m m.length)) ∧ ∃ n, w' = w.drewN n := by
  go_enter Try.func19, Try.ntmps19
  go_wp2_with (go_at_call 25; refine (masked_any _ _ _ _ _ _ _ _ _ _ ha hb hm h1 h2 hl).mono ?_; rintro e w' ⟨rfl, n, rfl⟩)
  go_ret
  exact ⟨rfl, n, rfl⟩
set_option maxHeartbeats 400000 in
theorem bytes18 (p0 p1 p2 : Option Addr) (c0 c1 c2 n0 n1 n2 : Nat) (w : World) (h0 : n0 ≤ maxLen) (h1 : n1 ≤ maxLen) (h2 : n2 ≤ maxLen) :
    Calls Try.prog 18 #[.slice p0 n0 c0, .slice p1 n1 c1, .slice p2 n2 c2] w fun e w' => (∃ r, e = .returned (.bool r)) ∧ w' = w := by
  unfold maxLen at h0 h1 h2
  go_enter Try.func18, Try.ntmps18
  go_wp2
  all_goals
    go_ret
    exact ⟨⟨_, rfl⟩, rfl⟩
end Go.Proofs.Qxb6601477a

import Derived.Test.Qxb6601776aZz
import Derived.Test.Qxb6601776aCeil
namespace Go.Proofs.Qxb6601776a
open Go.ChangeShapes Go.WideShapes Go.ChangeAt Go.RowKit
theorem pw_p2 (i : Nat) : pw (9 + i) = p2 i := rfl
theorem pw_bound : ∀ k, k ≤ 15 → 9 ≤ k → 512 ≤ pw k ∧ pw k ≤ 32768 := by decide
set_option maxHeartbeats 4000000 in
theorem form16 (d s : Int) (w : World) (hd0 : 0 ≤ d) (hd1 : d ≤ 72057594037927936) (hs0 : 0 ≤ s) (hs1 : s ≤ 4611686018427387904) (hf : d + (s + 512 - 1) / 512 ≤ 65524) :
    Calls Try.prog 3 #[.int .i64 d, .int .i64 s] w fun e w' => e = .returned (.bool true) ∧ Below w.heap.size w w' := by
  have hp := zzplan16 d s w hd0 hd1 hs0 hs1 hf
  by_cases hlo : d + (s + 512 - 1) / 512 < 4085
  · go_enter Try.func3, Try.ntmps3
    go_wp2_with fail
    refine hp.mono ?_
    clear hp
    rintro e w1 ⟨n, h1, h2, h3, rfl, hb⟩
    obtain rfl : n = 4085 := by omega
    clear h1 h2 h3
    go_wp2_with fail
    refine (ceil9 s _ hs0 hs1).mono ?_
    rintro e w' ⟨rfl, rfl⟩
    unfold cl
    go_wp2_with fail
    refine (ceil8 _ _ (by omega) (by omega)).mono ?_
    rintro e w'' ⟨rfl, rfl⟩
    unfold cl
    go_wp2_with fail
    go_ret
    exact ⟨rfl, hb⟩
  · go_enter Try.func3, Try.ntmps3
    go_wp2_with fail
    refine hp.mono ?_
    clear hp
    rintro e w1 ⟨n, h1, h2, h3, rfl, hb⟩
    obtain rfl : n = d + (s + 512 - 1) / 512 := by omega
    clear h1 h2 h3
    have he : (((2 + (d + (s + 512 - 1) / 512)) * 2 + 512 - 1) / 512 == (2 + (d + (s + 512 - 1) / 512) + 256 - 1) / 256) = true := by rw [beq_iff_eq]; omega
    go_wp2_with fail
    refine (ceil9 s _ hs0 hs1).mono ?_
    rintro e w' ⟨rfl, rfl⟩
    unfold cl
    go_wp2_with fail
    refine (ceil8 _ _ (by omega) (by omega)).mono ?_
    rintro e w'' ⟨rfl, rfl⟩
    unfold cl
    go_wp2_with fail
    go_ret
    exact ⟨rfl, hb⟩
end Go.Proofs.Qxb6601776a

import Derived.Test.Qxb6601776aZz
namespace Go.Proofs.Qxb6601776a
open Go.ChangeShapes Go.WideShapes Go.ChangeAt Go.RowKit
theorem and_pow : bits .and .i64 512 511 = 0 ∧ bits .and .i64 1024 1023 = 0 ∧ bits .and .i64 2048 2047 = 0 ∧ bits .and .i64 4096 4095 = 0 ∧ bits .and .i64 8192 8191 = 0 ∧ bits .and .i64 16384 16383 = 0 ∧ bits .and .i64 32768 32767 = 0 := by decide
set_option maxHeartbeats 8000000 in
theorem image (d s : Int) (w : World) (hdw : -9223372036854775808 ≤ d ∧ d ≤ 9223372036854775807) (hsw : -9223372036854775808 ≤ s ∧ s ≤ 9223372036854775807) :
    Calls Try.prog 4 #[.int .i64 d, .int .i64 s] w fun e w' => e = .returned (.bool true) ∧ Below w.heap.size w w' := by
  obtain ⟨b1, b2, b3, b4, b5, b6, b7⟩ := and_pow
  by_cases g : 0 ≤ d ∧ d ≤ 72057594037927936 ∧ 0 ≤ s ∧ s ≤ 4611686018427387904
  · obtain ⟨hd0, hd1, hs0, hs1⟩ := g
    by_cases hf : d + (s + 512 - 1) / 512 ≤ 65524
    · have hp := zzplan16 d s w hd0 hd1 hs0 hs1 hf
      go_enter Try.func4, Try.ntmps4
      go_wp2_with fail
      refine hp.mono ?_
      clear hp
      rintro e w1 ⟨n, h1, h2, h3, rfl, hb⟩
      have h4 : n ≤ 65524 := by omega
      clear h1 b2 b3 b4 b5 b6 b7
      go_wp2_with fail
      all_goals first | (go_ret; exact ⟨rfl, hb⟩) | (exfalso; omega)
    · have hp := zzplan32 d s w hd0 hd1 hs0 hs1 hf
      go_enter Try.func4, Try.ntmps4
      go_wp2_with fail
      refine hp.mono ?_
      clear hp
      rintro e w1 ⟨i, h1, h2, h3, rfl, hb⟩
      obtain ⟨q0, q1, q2, q3, q4, q5, q6⟩ := p2_vals
      clear h2
      have hi : i = 0 ∨ i = 1 ∨ i = 2 ∨ i = 3 ∨ i = 4 ∨ i = 5 ∨ i = 6 := by omega
      rcases hi with rfl | rfl | rfl | rfl | rfl | rfl | rfl
      · rw [q0]
        unfold cl
        clear h3 q0 q1 q2 q3 q4 q5 q6 b2 b3 b4 b5 b6 b7
        go_wp2_with fail
        all_goals first | (go_ret; exact ⟨rfl, hb⟩) | (exfalso; omega)
      · have h4 := h3 0 (by omega)
        rw [q0] at h4
        unfold cl at h4
        rw [q1]
        unfold cl
        clear h3 q0 q1 q2 q3 q4 q5 q6 b1 b3 b4 b5 b6 b7
        go_wp2_with fail
        all_goals first | (go_ret; exact ⟨rfl, hb⟩) | (exfalso; omega)
      · have h4 := h3 1 (by omega)
        rw [q1] at h4
        unfold cl at h4
        rw [q2]
        unfold cl
        clear h3 q0 q1 q2 q3 q4 q5 q6 b1 b2 b4 b5 b6 b7
        go_wp2_with fail
        all_goals first | (go_ret; exact ⟨rfl, hb⟩) | (exfalso; omega)
      · have h4 := h3 2 (by omega)
        rw [q2] at h4
        unfold cl at h4
        rw [q3]
        unfold cl
        clear h3 q0 q1 q2 q3 q4 q5 q6 b1 b2 b3 b5 b6 b7
        go_wp2_with fail
        all_goals first | (go_ret; exact ⟨rfl, hb⟩) | (exfalso; omega)
      · have h4 := h3 3 (by omega)
        rw [q3] at h4
        unfold cl at h4
        rw [q4]
        unfold cl
        clear h3 q0 q1 q2 q3 q4 q5 q6 b1 b2 b3 b4 b6 b7
        go_wp2_with fail
        all_goals first | (go_ret; exact ⟨rfl, hb⟩) | (exfalso; omega)
      · have h4 := h3 4 (by omega)
        rw [q4] at h4
        unfold cl at h4
        rw [q5]
        unfold cl
        clear h3 q0 q1 q2 q3 q4 q5 q6 b1 b2 b3 b4 b5 b7
        go_wp2_with fail
        all_goals first | (go_ret; exact ⟨rfl, hb⟩) | (exfalso; omega)
      · have h4 := h3 5 (by omega)
        rw [q5] at h4
        unfold cl at h4
        rw [q6]
        unfold cl
        clear h3 q0 q1 q2 q3 q4 q5 q6 b1 b2 b3 b4 b5 b6
        go_wp2_with fail
        all_goals first | (go_ret; exact ⟨rfl, hb⟩) | (exfalso; omega)
  · clear b1 b2 b3 b4 b5 b6 b7
    go_enter Try.func4, Try.ntmps4
    go_wp2_with fail
    all_goals first | (go_ret; exact ⟨rfl, Below.refl _ _⟩) | (exfalso; omega)
end Go.Proofs.Qxb6601776a

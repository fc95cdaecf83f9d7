import Derived.Test.Qxb6601776aPlan32
namespace Go.Proofs.Qxb6601776a
open Go.ChangeShapes Go.WideShapes Go.ChangeAt Go.RowKit
set_option maxHeartbeats 1000000 in
theorem zzplan16 (d s : Int) (w : World) (hd0 : 0 ≤ d) (hd1 : d ≤ 72057594037927936) (hs0 : 0 ≤ s) (hs1 : s ≤ 4611686018427387904) (hf : d + (s + 512 - 1) / 512 ≤ 65524) :
    Calls Try.prog 8 #[.int .i64 d, .int .i64 s] w fun e w' => ∃ n, (n = d + (s + 512 - 1) / 512 ∨ n = 4085) ∧ d + (s + 512 - 1) / 512 ≤ n ∧ 4085 ≤ n ∧ e = .returned (.tuple #[.bool false, .int .i64 512, .int .i64 n, .int .i64 1, .int .i64 (((2 + n) * 2 + 512 - 1) / 512), .int .i64 32, .int .i64 d, .int .i64 ((s + 512 - 1) / 512)]) ∧ Below w.heap.size w w' := by
  have hp := plan16 d s w hd0 hd1 hs0 hs1 hf
  go_enter Try.func8, Try.ntmps8
  go_wp2_with fail
  refine hp.mono ?_
  clear hp
  rintro e w1 ⟨n, h1, h2, h3, rfl, hb⟩
  have H1 : Hid (n = d + (s + 512 - 1) / 512 ∨ n = 4085) := h1
  clear h1
  go_wp2_with fail
  go_quiet (fail)
  go_wp2
  exact bodyPost_ret (v := .tuple #[.bool false, .int .i64 512, .int .i64 n, .int .i64 1, .int .i64 (((2 + n) * 2 + 512 - 1) / 512), .int .i64 32, .int .i64 d, .int .i64 ((s + 512 - 1) / 512)]) (by simp [results, Try.results8, go_sem]) rfl
    ⟨n, H1.out, h2, h3, rfl, below_drewN (hb.alloc hb.size _) _⟩
set_option maxHeartbeats 1000000 in
theorem zzplan32 (d s : Int) (w : World) (hd0 : 0 ≤ d) (hd1 : d ≤ 72057594037927936) (hs0 : 0 ≤ s) (hs1 : s ≤ 4611686018427387904) (hf : ¬ d + (s + 512 - 1) / 512 ≤ 65524) :
    Calls Try.prog 8 #[.int .i64 d, .int .i64 s] w fun e w' => ∃ i, i ≤ 6 ∧ (i = 6 ∨ d + 1 + cl s (p2 i) ≤ 131050) ∧ (∀ j, j < i → 131050 < d + 1 + cl s (p2 j)) ∧
      e = .returned (.tuple #[.bool true, .int .i64 (p2 i), .int .i64 (d + 1 + cl s (p2 i)), .int .i64 32, .int .i64 (((2 + (d + 1 + cl s (p2 i))) * 4 + 512 - 1) / 512), .int .i64 0, .int .i64 (d + 1), .int .i64 (cl s (p2 i))]) ∧ Below w.heap.size w w' := by
  have hp := plan32 d s w hd0 hd1 hs0 hs1 hf
  go_enter Try.func8, Try.ntmps8
  go_wp2_with fail
  refine hp.mono ?_
  clear hp
  rintro e w1 ⟨i, h1, h2, h3, rfl, hb⟩
  have H2 : Hid (i = 6 ∨ d + 1 + cl s (p2 i) ≤ 131050) := h2
  have H3 : Hid (∀ j, j < i → 131050 < d + 1 + cl s (p2 j)) := h3
  clear h2 h3 hf
  go_wp2_with fail
  go_quiet (fail)
  go_wp2
  exact bodyPost_ret (v := .tuple #[.bool true, .int .i64 (p2 i), .int .i64 (d + 1 + cl s (p2 i)), .int .i64 32, .int .i64 (((2 + (d + 1 + cl s (p2 i))) * 4 + 512 - 1) / 512), .int .i64 0, .int .i64 (d + 1), .int .i64 (cl s (p2 i))]) (by simp [results, Try.results8, go_sem]) rfl
    ⟨i, h1, H2.out, H3.out, rfl, below_drewN (hb.alloc hb.size _) _⟩
end Go.Proofs.Qxb6601776a

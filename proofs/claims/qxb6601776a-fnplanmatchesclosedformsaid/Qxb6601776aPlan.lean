import Derived.Test.Qxb6601776aRows
import Derived.WalkKit
import Derived.ProofKit
import Derived.OpenShut
import Derived.Below
import Derived.WalkSmall
import Derived.WalkSpells
import Derived.Deep.QuietTactic
import Derived.BigQuiet
namespace Go.Proofs.Qxb6601776a
open Go.ChangeShapes Go.WideShapes Go.ChangeAt Go.RowKit
/-- clusters of c bytes for a file of s bytes -/
def cl (s c : Int) : Int := (s + c - 1) / c
set_option maxHeartbeats 400000 in
theorem sectors_any (n : Int) (w : World) (h0 : 0 ≤ n) (h1 : n ≤ 1152921504606846976) :
    Calls Try.prog 18 #[.int .i64 n] w fun e w' => e = .returned (.int .i64 ((n + 512 - 1) / 512)) ∧ w' = w := by
  go_enter Try.func18, Try.ntmps18
  go_wp2
  go_ret
  exact ⟨rfl, rfl⟩
set_option maxHeartbeats 400000 in
theorem plan16 (d s : Int) (w : World) (hd0 : 0 ≤ d) (hd1 : d ≤ 72057594037927936) (hs0 : 0 ≤ s) (hs1 : s ≤ 4611686018427387904) (hf : d + (s + 512 - 1) / 512 ≤ 65524) :
    Calls Try.prog 15 #[.int .i64 d, .int .i64 s] w fun e w' => ∃ n, (n = d + (s + 512 - 1) / 512 ∨ n = 4085) ∧ d + (s + 512 - 1) / 512 ≤ n ∧ 4085 ≤ n ∧ e = .returned (.agg #[.bool false, .int .i64 512, .int .i64 n, .int .i64 1, .int .i64 (((2 + n) * 2 + 512 - 1) / 512), .int .i64 32, .int .i64 d, .int .i64 ((s + 512 - 1) / 512)]) ∧ Below w.heap.size w w' := by
  by_cases hlo : d + (s + 512 - 1) / 512 < 4085
  · go_enter Try.func15, Try.ntmps15
    go_wp2_with (first | (go_at_call 18; refine (sectors_any _ _ (by omega) (by omega)).mono ?_; rintro e w' ⟨rfl, rfl⟩) | go_in)
    exact bodyPost_ret (v := .agg #[.bool false, .int .i64 512, .int .i64 4085, .int .i64 1, .int .i64 16, .int .i64 32, .int .i64 d, .int .i64 ((s + 512 - 1) / 512)]) (by simp [results, Try.results15, go_sem]) rfl
      ⟨4085, .inr rfl, by omega, by omega, rfl, (((Below.refl _ _).alloc (Nat.le_refl _) _).alloc (by simp) _).alloc (by simp; omega) _⟩
  · go_enter Try.func15, Try.ntmps15
    go_wp2_with (first | (go_at_call 18; refine (sectors_any _ _ (by omega) (by omega)).mono ?_; rintro e w' ⟨rfl, rfl⟩) | go_in)
    exact bodyPost_ret (v := .agg #[.bool false, .int .i64 512, .int .i64 (d + (s + 512 - 1) / 512), .int .i64 1, .int .i64 (((2 + (d + (s + 512 - 1) / 512)) * 2 + 512 - 1) / 512), .int .i64 32, .int .i64 d, .int .i64 ((s + 512 - 1) / 512)]) (by simp [results, Try.results15, go_sem]) rfl
      ⟨d + (s + 512 - 1) / 512, .inl rfl, by omega, by omega, rfl, (((Below.refl _ _).alloc (Nat.le_refl _) _).alloc (by simp) _).alloc (by simp; omega) _⟩
def p2 (i : Nat) : Int := 2 ^ (9 + i)
theorem p2_succ (i : Nat) : p2 (i + 1) = p2 i * 2 := by unfold p2; rw [← Nat.add_assoc, Int.pow_succ]
theorem p2_vals : p2 0 = 512 ∧ p2 1 = 1024 ∧ p2 2 = 2048 ∧ p2 3 = 4096 ∧ p2 4 = 8192 ∧ p2 5 = 16384 ∧ p2 6 = 32768 := by decide
theorem p2_bound : ∀ i, i ≤ 6 → 512 ≤ p2 i ∧ p2 i ≤ 32768 := by decide
theorem p2_lt : ∀ i, i ≤ 6 → p2 i < 32768 → i < 6 := by decide
theorem cl_bound (s c : Int) (hs0 : 0 ≤ s) (hs1 : s ≤ 4611686018427387904) (hc : 512 ≤ c) : 0 ≤ cl s c ∧ cl s c ≤ 9007199254740992 := by
  unfold cl
  have h0 : 0 ≤ s + c - 1 := by omega
  refine ⟨Int.ediv_nonneg h0 (by omega), ?_⟩
  have h1 : (s + c - 1) / c < 9007199254740992 + 1 := by
    apply Int.ediv_lt_of_lt_mul (by omega)
    have : (512 : Int) * 9007199254740992 ≤ c * 9007199254740992 := Int.mul_le_mul_of_nonneg_right hc (by omega)
    have e : (9007199254740992 + 1) * c = c * 9007199254740992 + c := by rw [Int.add_mul, Int.mul_comm]; omega
    omega
  omega
set_option maxHeartbeats 400000 in
theorem clusters_any (c s : Int) (b : Nat) (w : World) (hw : w.cell? ⟨b, 0, none⟩ = some (.int .i64 s)) (hs0 : 0 ≤ s) (hs1 : s ≤ 4611686018427387904) (hc : 512 ≤ c) (hc2 : c ≤ 65536) :
    Calls Try.prog 17 #[.int .i64 c, .pointer (some ⟨b, 0, none⟩)] w fun e w' => e = .returned (.int .i64 (cl s c)) ∧ w' = w := by
  have hc0 : ¬ c = 0 := by omega
  have h1 : 0 ≤ (s + c - 1) / c := (cl_bound s c hs0 hs1 hc).1
  have h2 : (s + c - 1) / c ≤ 9007199254740992 := (cl_bound s c hs0 hs1 hc).2
  go_enter Try.func17, Try.ntmps17
  go_wp2
  go_ret
  exact ⟨rfl, rfl⟩
end Go.Proofs.Qxb6601776a

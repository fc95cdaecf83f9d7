import Derived.Test.Qxb6601776aPlan
namespace Go.Proofs.Qxb6601776a
open Go.ChangeShapes Go.WideShapes Go.ChangeAt Go.RowKit
theorem and_mask_nat (n k : Nat) (hn : n < 9223372036854775808) (hk : k ≤ 15) : bits .and .i64 (n : Int) ((2 ^ k - 1 : Nat) : Int) = ((n % 2 ^ k : Nat) : Int) := by
  have hp : 2 ^ k ≤ 2 ^ 15 := Nat.pow_le_pow_right (by omega) hk
  have hpos : 0 < 2 ^ k := Nat.pow_pos (by omega)
  have h32 : (2 : Nat) ^ 15 = 32768 := by decide
  have e : (BitVec.ofInt 64 (n : Int) &&& BitVec.ofInt 64 ((2 ^ k - 1 : Nat) : Int)).toNat = n % 2 ^ k := by
    rw [BitVec.ofInt_natCast, BitVec.ofInt_natCast, BitVec.toNat_and, BitVec.toNat_ofNat, BitVec.toNat_ofNat, Nat.mod_eq_of_lt (by omega : n < 2 ^ 64), Nat.mod_eq_of_lt (by omega : 2 ^ k - 1 < 2 ^ 64), Nat.and_two_pow_sub_one_eq_mod]
  have hlt : n % 2 ^ k < 2 ^ k := Nat.mod_lt _ hpos
  have e2 : bits .and .i64 (n : Int) ((2 ^ k - 1 : Nat) : Int) = IntKind.i64.wrap (((BitVec.ofInt 64 (n : Int) &&& BitVec.ofInt 64 ((2 ^ k - 1 : Nat) : Int)).toNat : Nat) : Int) := rfl
  rw [e2, e, IntKind.wrap_i64]
  omega
theorem and_mask (v : Int) (k : Nat) (m c : Int) (h0 : 0 ≤ v) (h1 : v ≤ 4611686018427387904) (hk : k ≤ 15) (hm : m = ((2 ^ k - 1 : Nat) : Int)) (hc : c = ((2 ^ k : Nat) : Int)) : bits .and .i64 v m = v % c := by
  subst hm hc
  obtain ⟨n, rfl⟩ := Int.eq_ofNat_of_zero_le h0
  rw [and_mask_nat n k (by omega) hk]
  rfl
/-- 2 to the x -/
def pw (x : Nat) : Int := 2 ^ x
set_option maxHeartbeats 400000 in
theorem ceil7 (v : Int) (w : World) (h0 : 0 ≤ v) (h1 : v ≤ 4611686018427387904) :
    Calls Try.prog 9 #[.int .i64 v, .int .u64 7] w fun e w' => e = .returned (.int .i64 (cl v 128)) ∧ w' = w := by
  have HM : Hid (bits .and .i64 v 127 = v % 128) := and_mask v 7 127 128 h0 h1 (by omega) (by decide) (by decide)
  by_cases hr : v % 128 = 0
  · have ht : (bits .and .i64 v 127 != 0) = false := by rw [HM.out, hr]; rfl
    have HE : Hid (cl v 128 = v / 128) := by show _ = _; unfold cl; omega
    clear hr
    go_enter Try.func9, Try.ntmps9
    go_wp2
    go_ret
    exact ⟨by rw [HE.out]; rfl, rfl⟩
  · have ht : (bits .and .i64 v 127 != 0) = true := by rw [HM.out]; simpa using hr
    have HE : Hid (cl v 128 = v / 128 + 1) := by show _ = _; unfold cl; omega
    clear hr
    go_enter Try.func9, Try.ntmps9
    go_wp2
    go_ret
    exact ⟨by rw [HE.out]; rfl, rfl⟩
set_option maxHeartbeats 400000 in
theorem ceil8 (v : Int) (w : World) (h0 : 0 ≤ v) (h1 : v ≤ 4611686018427387904) :
    Calls Try.prog 9 #[.int .i64 v, .int .u64 8] w fun e w' => e = .returned (.int .i64 (cl v 256)) ∧ w' = w := by
  have HM : Hid (bits .and .i64 v 255 = v % 256) := and_mask v 8 255 256 h0 h1 (by omega) (by decide) (by decide)
  by_cases hr : v % 256 = 0
  · have ht : (bits .and .i64 v 255 != 0) = false := by rw [HM.out, hr]; rfl
    have HE : Hid (cl v 256 = v / 256) := by show _ = _; unfold cl; omega
    clear hr
    go_enter Try.func9, Try.ntmps9
    go_wp2
    go_ret
    exact ⟨by rw [HE.out]; rfl, rfl⟩
  · have ht : (bits .and .i64 v 255 != 0) = true := by rw [HM.out]; simpa using hr
    have HE : Hid (cl v 256 = v / 256 + 1) := by show _ = _; unfold cl; omega
    clear hr
    go_enter Try.func9, Try.ntmps9
    go_wp2
    go_ret
    exact ⟨by rw [HE.out]; rfl, rfl⟩
set_option maxHeartbeats 400000 in
theorem ceil9 (v : Int) (w : World) (h0 : 0 ≤ v) (h1 : v ≤ 4611686018427387904) :
    Calls Try.prog 9 #[.int .i64 v, .int .u64 9] w fun e w' => e = .returned (.int .i64 (cl v 512)) ∧ w' = w := by
  have HM : Hid (bits .and .i64 v 511 = v % 512) := and_mask v 9 511 512 h0 h1 (by omega) (by decide) (by decide)
  by_cases hr : v % 512 = 0
  · have ht : (bits .and .i64 v 511 != 0) = false := by rw [HM.out, hr]; rfl
    have HE : Hid (cl v 512 = v / 512) := by show _ = _; unfold cl; omega
    clear hr
    go_enter Try.func9, Try.ntmps9
    go_wp2
    go_ret
    exact ⟨by rw [HE.out]; rfl, rfl⟩
  · have ht : (bits .and .i64 v 511 != 0) = true := by rw [HM.out]; simpa using hr
    have HE : Hid (cl v 512 = v / 512 + 1) := by show _ = _; unfold cl; omega
    clear hr
    go_enter Try.func9, Try.ntmps9
    go_wp2
    go_ret
    exact ⟨by rw [HE.out]; rfl, rfl⟩
set_option maxHeartbeats 400000 in
theorem ceil10 (v : Int) (w : World) (h0 : 0 ≤ v) (h1 : v ≤ 4611686018427387904) :
    Calls Try.prog 9 #[.int .i64 v, .int .u64 10] w fun e w' => e = .returned (.int .i64 (cl v 1024)) ∧ w' = w := by
  have HM : Hid (bits .and .i64 v 1023 = v % 1024) := and_mask v 10 1023 1024 h0 h1 (by omega) (by decide) (by decide)
  by_cases hr : v % 1024 = 0
  · have ht : (bits .and .i64 v 1023 != 0) = false := by rw [HM.out, hr]; rfl
    have HE : Hid (cl v 1024 = v / 1024) := by show _ = _; unfold cl; omega
    clear hr
    go_enter Try.func9, Try.ntmps9
    go_wp2
    go_ret
    exact ⟨by rw [HE.out]; rfl, rfl⟩
  · have ht : (bits .and .i64 v 1023 != 0) = true := by rw [HM.out]; simpa using hr
    have HE : Hid (cl v 1024 = v / 1024 + 1) := by show _ = _; unfold cl; omega
    clear hr
    go_enter Try.func9, Try.ntmps9
    go_wp2
    go_ret
    exact ⟨by rw [HE.out]; rfl, rfl⟩
set_option maxHeartbeats 400000 in
theorem ceil11 (v : Int) (w : World) (h0 : 0 ≤ v) (h1 : v ≤ 4611686018427387904) :
    Calls Try.prog 9 #[.int .i64 v, .int .u64 11] w fun e w' => e = .returned (.int .i64 (cl v 2048)) ∧ w' = w := by
  have HM : Hid (bits .and .i64 v 2047 = v % 2048) := and_mask v 11 2047 2048 h0 h1 (by omega) (by decide) (by decide)
  by_cases hr : v % 2048 = 0
  · have ht : (bits .and .i64 v 2047 != 0) = false := by rw [HM.out, hr]; rfl
    have HE : Hid (cl v 2048 = v / 2048) := by show _ = _; unfold cl; omega
    clear hr
    go_enter Try.func9, Try.ntmps9
    go_wp2
    go_ret
    exact ⟨by rw [HE.out]; rfl, rfl⟩
  · have ht : (bits .and .i64 v 2047 != 0) = true := by rw [HM.out]; simpa using hr
    have HE : Hid (cl v 2048 = v / 2048 + 1) := by show _ = _; unfold cl; omega
    clear hr
    go_enter Try.func9, Try.ntmps9
    go_wp2
    go_ret
    exact ⟨by rw [HE.out]; rfl, rfl⟩
set_option maxHeartbeats 400000 in
theorem ceil12 (v : Int) (w : World) (h0 : 0 ≤ v) (h1 : v ≤ 4611686018427387904) :
    Calls Try.prog 9 #[.int .i64 v, .int .u64 12] w fun e w' => e = .returned (.int .i64 (cl v 4096)) ∧ w' = w := by
  have HM : Hid (bits .and .i64 v 4095 = v % 4096) := and_mask v 12 4095 4096 h0 h1 (by omega) (by decide) (by decide)
  by_cases hr : v % 4096 = 0
  · have ht : (bits .and .i64 v 4095 != 0) = false := by rw [HM.out, hr]; rfl
    have HE : Hid (cl v 4096 = v / 4096) := by show _ = _; unfold cl; omega
    clear hr
    go_enter Try.func9, Try.ntmps9
    go_wp2
    go_ret
    exact ⟨by rw [HE.out]; rfl, rfl⟩
  · have ht : (bits .and .i64 v 4095 != 0) = true := by rw [HM.out]; simpa using hr
    have HE : Hid (cl v 4096 = v / 4096 + 1) := by show _ = _; unfold cl; omega
    clear hr
    go_enter Try.func9, Try.ntmps9
    go_wp2
    go_ret
    exact ⟨by rw [HE.out]; rfl, rfl⟩
set_option maxHeartbeats 400000 in
theorem ceil13 (v : Int) (w : World) (h0 : 0 ≤ v) (h1 : v ≤ 4611686018427387904) :
    Calls Try.prog 9 #[.int .i64 v, .int .u64 13] w fun e w' => e = .returned (.int .i64 (cl v 8192)) ∧ w' = w := by
  have HM : Hid (bits .and .i64 v 8191 = v % 8192) := and_mask v 13 8191 8192 h0 h1 (by omega) (by decide) (by decide)
  by_cases hr : v % 8192 = 0
  · have ht : (bits .and .i64 v 8191 != 0) = false := by rw [HM.out, hr]; rfl
    have HE : Hid (cl v 8192 = v / 8192) := by show _ = _; unfold cl; omega
    clear hr
    go_enter Try.func9, Try.ntmps9
    go_wp2
    go_ret
    exact ⟨by rw [HE.out]; rfl, rfl⟩
  · have ht : (bits .and .i64 v 8191 != 0) = true := by rw [HM.out]; simpa using hr
    have HE : Hid (cl v 8192 = v / 8192 + 1) := by show _ = _; unfold cl; omega
    clear hr
    go_enter Try.func9, Try.ntmps9
    go_wp2
    go_ret
    exact ⟨by rw [HE.out]; rfl, rfl⟩
set_option maxHeartbeats 400000 in
theorem ceil14 (v : Int) (w : World) (h0 : 0 ≤ v) (h1 : v ≤ 4611686018427387904) :
    Calls Try.prog 9 #[.int .i64 v, .int .u64 14] w fun e w' => e = .returned (.int .i64 (cl v 16384)) ∧ w' = w := by
  have HM : Hid (bits .and .i64 v 16383 = v % 16384) := and_mask v 14 16383 16384 h0 h1 (by omega) (by decide) (by decide)
  by_cases hr : v % 16384 = 0
  · have ht : (bits .and .i64 v 16383 != 0) = false := by rw [HM.out, hr]; rfl
    have HE : Hid (cl v 16384 = v / 16384) := by show _ = _; unfold cl; omega
    clear hr
    go_enter Try.func9, Try.ntmps9
    go_wp2
    go_ret
    exact ⟨by rw [HE.out]; rfl, rfl⟩
  · have ht : (bits .and .i64 v 16383 != 0) = true := by rw [HM.out]; simpa using hr
    have HE : Hid (cl v 16384 = v / 16384 + 1) := by show _ = _; unfold cl; omega
    clear hr
    go_enter Try.func9, Try.ntmps9
    go_wp2
    go_ret
    exact ⟨by rw [HE.out]; rfl, rfl⟩
set_option maxHeartbeats 400000 in
theorem ceil15 (v : Int) (w : World) (h0 : 0 ≤ v) (h1 : v ≤ 4611686018427387904) :
    Calls Try.prog 9 #[.int .i64 v, .int .u64 15] w fun e w' => e = .returned (.int .i64 (cl v 32768)) ∧ w' = w := by
  have HM : Hid (bits .and .i64 v 32767 = v % 32768) := and_mask v 15 32767 32768 h0 h1 (by omega) (by decide) (by decide)
  by_cases hr : v % 32768 = 0
  · have ht : (bits .and .i64 v 32767 != 0) = false := by rw [HM.out, hr]; rfl
    have HE : Hid (cl v 32768 = v / 32768) := by show _ = _; unfold cl; omega
    clear hr
    go_enter Try.func9, Try.ntmps9
    go_wp2
    go_ret
    exact ⟨by rw [HE.out]; rfl, rfl⟩
  · have ht : (bits .and .i64 v 32767 != 0) = true := by rw [HM.out]; simpa using hr
    have HE : Hid (cl v 32768 = v / 32768 + 1) := by show _ = _; unfold cl; omega
    clear hr
    go_enter Try.func9, Try.ntmps9
    go_wp2
    go_ret
    exact ⟨by rw [HE.out]; rfl, rfl⟩
theorem ceil_any (v z : Int) (k : Nat) (w : World) (h0 : 0 ≤ v) (h1 : v ≤ 4611686018427387904) (h7 : 7 ≤ k) (h15 : k ≤ 15) (hz : z = (k : Int)) :
    Calls Try.prog 9 #[.int .i64 v, .int .u64 z] w fun e w' => e = .returned (.int .i64 (cl v (pw k))) ∧ w' = w := by
  subst hz
  match k, h7, h15 with
  | 7, _, _ => exact ceil7 v w h0 h1
  | 8, _, _ => exact ceil8 v w h0 h1
  | 9, _, _ => exact ceil9 v w h0 h1
  | 10, _, _ => exact ceil10 v w h0 h1
  | 11, _, _ => exact ceil11 v w h0 h1
  | 12, _, _ => exact ceil12 v w h0 h1
  | 13, _, _ => exact ceil13 v w h0 h1
  | 14, _, _ => exact ceil14 v w h0 h1
  | 15, _, _ => exact ceil15 v w h0 h1
  | k + 16, _, h => omega
end Go.Proofs.Qxb6601776a

import Derived.Test.Qxb6601477aMask
namespace Go.Proofs.Qxb6601477a
open Go.ChangeShapes Go.WideShapes Go.ChangeAt Go.RowKit
/-! ### The plain law: bits of bytes -/
theorem wrap_u8 (x : BitVec 8) : IntKind.u8.wrap (x.toNat : Int) = (x.toNat : Int) := by
  have := x.isLt
  simp [IntKind.wrap, IntKind.signed, IntKind.bits]
  omega
theorem and_u8 (x y : Int) : bits .and .u8 x y = ((BitVec.ofInt 8 x &&& BitVec.ofInt 8 y).toNat : Int) := wrap_u8 _
theorem or_u8 (x y : Int) : bits .or .u8 x y = ((BitVec.ofInt 8 x ||| BitVec.ofInt 8 y).toNat : Int) := wrap_u8 _
theorem xor_u8 (x y : Int) : bits .xor .u8 x y = ((BitVec.ofInt 8 x ^^^ BitVec.ofInt 8 y).toNat : Int) := wrap_u8 _
theorem ofInt_toNat (x : BitVec 8) : BitVec.ofInt 8 (x.toNat : Int) = x := by
  simp
theorem toNat_zero (x : BitVec 8) : ((x.toNat : Int) = 0) ↔ x = 0#8 := by
  constructor
  · intro h
    apply BitVec.eq_of_toNat_eq
    simp; omega
  · rintro rfl; rfl
theorem toNat_same (x y : BitVec 8) : ((x.toNat : Int) = (y.toNat : Int)) ↔ x = y := by
  constructor
  · intro h
    exact BitVec.eq_of_toNat_eq (by omega)
  · rintro rfl; rfl
theorem xor_and_zero (X Y M : BitVec 8) : ((X ^^^ Y) &&& M = 0#8) ↔ (X &&& M = Y &&& M) := by
  constructor
  · intro h
    apply BitVec.eq_of_getLsbD_eq
    intro i hi
    have h' : ((X ^^^ Y) &&& M).getLsbD i = (0#8).getLsbD i := by rw [h]
    simp only [BitVec.getLsbD_and, BitVec.getLsbD_xor, BitVec.getLsbD_zero] at h' ⊢
    revert h'
    generalize X.getLsbD i = x
    generalize Y.getLsbD i = y
    generalize M.getLsbD i = m
    revert x y m
    decide
  · intro h
    apply BitVec.eq_of_getLsbD_eq
    intro i hi
    have h' : (X &&& M).getLsbD i = (Y &&& M).getLsbD i := by rw [h]
    simp only [BitVec.getLsbD_and, BitVec.getLsbD_xor, BitVec.getLsbD_zero] at h' ⊢
    revert h'
    generalize X.getLsbD i = x
    generalize Y.getLsbD i = y
    generalize M.getLsbD i = m
    revert x y m
    decide
/-- the accumulation -/
def accV (a b m : List Int) : Nat → Int
  | 0 => 0
  | n + 1 => bits .or .u8 (accV a b m n) (bits .and .u8 (bits .xor .u8 (at0 a n) (at0 b n)) (at0 m n))
theorem accV_form (a b m : List Int) : ∀ n, ∃ x : BitVec 8, accV a b m n = (x.toNat : Int)
  | 0 => ⟨0#8, rfl⟩
  | _ + 1 => ⟨_, or_u8 _ _⟩
theorem accV_zero (a b m : List Int) : ∀ n, accV a b m n = 0 ↔ mEq a b m n = true
  | 0 => by simp [accV, mEq]
  | n + 1 => by
    obtain ⟨x, hx⟩ := accV_form a b m n
    have ih := accV_zero a b m n
    rw [accV, mEq, Bool.and_eq_true, ← ih, beq_iff_eq, hx, xor_u8, and_u8, and_u8, and_u8, or_u8, ofInt_toNat, ofInt_toNat, ofInt_toNat, toNat_zero, toNat_zero, toNat_same, BitVec.or_eq_zero_iff, xor_and_zero]
theorem acc_test (a b m : List Int) (n : Nat) : (mEq a b m n == (accV a b m n == 0)) = true := by
  have h := accV_zero a b m n
  cases e : mEq a b m n
  · rw [e] at h
    simp at h
    simp [h]
  · rw [e] at h
    simp at h
    simp [h]
end Go.Proofs.Qxb6601477a

import Derived.Test.Qxb6601477aEq
import Derived.WalkKit
import Derived.ProofKit
import Derived.OpenShut
import Derived.Below
import Derived.WalkSmall
import Derived.Deep.QuietTactic
import Derived.BigQuiet
import Derived.Deep.MidRow
namespace Go.Proofs.Qxb6601477a
open Go.ChangeShapes Go.WideShapes Go.ChangeAt Go.RowKit

def u8s (xs : List Int) : Array Value := (xs.map (Value.int .u8)).toArray
def at0 (xs : List Int) (k : Nat) : Int := xs.getD k 0
theorem u8s_get (xs : List Int) (k : Nat) (h : k < xs.length) : (u8s xs)[k]? = some (.int .u8 (at0 xs k)) := by
  simp [u8s, at0, h]
/-- the first n numbers of xs are at least those of ys -/
def geB (xs ys : List Int) : Nat → Bool
  | 0 => true
  | n + 1 => geB xs ys n && decide (at0 ys n ≤ at0 xs n)
theorem geB_false {xs ys : List Int} {k : Nat} (h : ¬ at0 ys k ≤ at0 xs k) : ∀ n, k < n → geB xs ys n = false
  | 0, hk => by omega
  | n + 1, hk => by
    by_cases e : k = n
    · subst e; simp only [geB, h, decide_false, Bool.and_false]
    · simp only [geB, geB_false h n (by omega), Bool.false_and]

set_option maxHeartbeats 400000 in
theorem reaches_any (xs ys : List Int) (w : World) (hx : xs.length = 16) (hy : ys.length = 16) :
    Calls Try.prog 24 #[.agg (u8s xs), .agg (u8s ys)] w fun e w' => e = .returned (.bool (geB xs ys 16)) ∧ Below w.heap.size w w' := by
  have cx : ∀ k, k < 16 → ((w.alloc (.cells (u8s xs) 28)).alloc (.cells (u8s ys) 28)).cell? ⟨w.heap.size, k, none⟩ = some (.int .u8 (at0 xs k)) := fun k hk => by
    rw [cell_of_row _ _ k _ _ _ (heap_alloc2_old _ _ _)]; exact u8s_get xs k (by omega)
  have cy : ∀ k, k < 16 → ((w.alloc (.cells (u8s xs) 28)).alloc (.cells (u8s ys) 28)).cell? ⟨w.heap.size + 1, k, none⟩ = some (.int .u8 (at0 ys k)) := fun k hk => by
    rw [cell_of_row _ _ k _ _ _ (heap_alloc2_new _ _ _)]; exact u8s_get ys k (by omega)
  have hb : Below w.heap.size w ((w.alloc (.cells (u8s xs) 28)).alloc (.cells (u8s ys) 28)) := ((Below.refl _ _).alloc (Nat.le_refl _) _).alloc (by simp) _
  go_enter Try.func24, Try.ntmps24
  go_wp2
  generalize (w.alloc (.cells (u8s xs) 28)).alloc (.cells (u8s ys) 28) = W at *
  go_loopw [6] (fun i wr => ∃ k n : Nat, k ≤ 16 ∧ i = .int .i64 k ∧ Hid (geB xs ys k = true) ∧ wr = W.drewN n) (fun i _ => 16 - (intOf i).toNat)
  case atStart => exact ⟨0, 0, Nat.zero_le _, rfl, rfl, rfl⟩
  case round =>
    obtain ⟨k, n, hk, rfl, HG, rfl⟩ := hrel
    by_cases hlt : k < 16
    · have c1 := cx k hlt
      have c2 := cy k hlt
      have hkI : (k : Int) < 16 := by omega
      have hk0 : (0 : Int) ≤ (k : Int) := by omega
      clear cx cy
      by_cases ht : at0 xs k < at0 ys k
      · go_wp2
        go_quiet (fail)
        go_wp2
        go_ret
        exact ⟨by rw [geB_false (k := k) (by omega) 16 hlt]; rfl, below_drewN (below_drewN hb _) _⟩
      · go_wp2
        go_quiet (fail)
        go_wp2
        go_roundw
        case rel => exact ⟨k + 1, _, by omega, by go_num, (by show geB xs ys (k + 1) = true; simp only [geB, HG.out]; simp; omega), rfl⟩
        case measure => simp [intOf]; omega
    · obtain rfl : k = 16 := by omega
      go_wp2
      go_ret
      exact ⟨by rw [HG.out]; rfl, below_drewN hb _⟩
theorem info28 : (Try.prog.info? 28).map (·.size) = some 16 := by kernel_rfl
theorem u8s_size (xs : List Int) : (u8s xs).size = xs.length := by simp [u8s]
theorem wpList_load28 {ops : Array Oper} {rest : List Oper} {o : Oper} {a : Act} {w : World} {Q : Exit → Act → World → Prop} (x : Operand) (ho : o.op = .load 28 x)
    (hw : Region.wanted o (yielded ops a.tmps) = true)
    (g : Nat) (hx : a.eval x = .pointer (some ⟨g, 0, none⟩)) (xs : List Int) (fr : Nat × Nat) (hl : xs.length = 16) (hg : w.heap[g]? = some (.cells (u8s xs) 28 fr))
    (h : wpList Try.prog ops Q rest (a.put o.dst (.agg (u8s xs))) w) : wpList Try.prog ops Q (o :: rest) a w :=
  BigFrame.wpList_want hw fun _ hK => wp_load_row 28 x ho g hx 28 (u8s xs) fr _ hg Try.underlying28 rfl (by rw [u8s_size, hl]; exact info28) (hK _ _ h)
set_option maxHeartbeats 400000 in
theorem zzreaches_any (xs ys : List Int) (w : World) (hx : xs.length = 16) (hy : ys.length = 16) :
    Calls Try.prog 17 #[.agg (u8s xs), .agg (u8s ys)] w fun e w' => e = .returned (.bool (geB xs ys 16)) ∧ Below w.heap.size w w' := by
  have l1 := heap_alloc2_old w (.cells (u8s xs) 28) (.cells (u8s ys) 28)
  have l2 := heap_alloc2_new w (.cells (u8s xs) 28) (.cells (u8s ys) 28)
  have hb : Below w.heap.size w ((w.alloc (.cells (u8s xs) 28)).alloc (.cells (u8s ys) 28)) := ((Below.refl _ _).alloc (Nat.le_refl _) _).alloc (by simp) _
  go_enter Try.func17, Try.ntmps17
  go_wp2_with (first | (go_at_call 24; refine (reaches_any _ _ _ hx hy).mono ?_; rintro e w' ⟨rfl, hw⟩) | refine wpList_load28 _ rfl rfl _ rfl _ _ hx l1 ?_ | refine wpList_load28 _ rfl rfl _ rfl _ _ hy l2 ?_)
  go_ret
  exact ⟨rfl, hb.trans (hw.mono (by simp; omega))⟩
end Go.Proofs.Qxb6601477a

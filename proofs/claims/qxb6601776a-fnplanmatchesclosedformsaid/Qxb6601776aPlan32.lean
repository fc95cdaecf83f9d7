import Derived.Test.Qxb6601776aPlan
namespace Go.Proofs.Qxb6601776a
open Go.ChangeShapes Go.WideShapes Go.ChangeAt Go.RowKit
theorem p2_small : ∀ i, i < 6 → p2 i < 32768 := by decide
theorem cell_third (w : World) (A B : Obj) (cs : Array Value) (j : Nat) : (((w.alloc A).alloc B).alloc (.cells cs 32)).cell? ⟨w.heap.size + 1 + 1, j, none⟩ = cs[j]? := by
  have h := heap_alloc2_new (w.alloc A) B (.cells cs 32)
  have e : (w.alloc A).heap.size = w.heap.size + 1 := by simp
  rw [e] at h
  exact cell_of_row _ _ _ _ _ _ h
set_option maxHeartbeats 1000000 in
theorem plan32 (d s : Int) (w : World) (hd0 : 0 ≤ d) (hd1 : d ≤ 72057594037927936) (hs0 : 0 ≤ s) (hs1 : s ≤ 4611686018427387904) (hf : ¬ d + (s + 512 - 1) / 512 ≤ 65524) :
    Calls Try.prog 15 #[.int .i64 d, .int .i64 s] w fun e w' => ∃ i, i ≤ 6 ∧ (i = 6 ∨ d + 1 + cl s (p2 i) ≤ 131050) ∧ (∀ j, j < i → 131050 < d + 1 + cl s (p2 j)) ∧
      e = .returned (.agg #[.bool true, .int .i64 (p2 i), .int .i64 (d + 1 + cl s (p2 i)), .int .i64 32, .int .i64 (((2 + (d + 1 + cl s (p2 i))) * 4 + 512 - 1) / 512), .int .i64 0, .int .i64 (d + 1), .int .i64 (cl s (p2 i))]) ∧ Below w.heap.size w w' := by
  have hcl0 : (s + 512 - 1) / 512 = cl s 512 := rfl
  go_enter Try.func15, Try.ntmps15
  go_wp2_with go_in
  clear hcl0
  go_loopw [39] (fun _ wr => ∃ (i : Nat) (c f : Int), i ≤ 6 ∧ Hid (c = p2 i) ∧ 512 ≤ c ∧ c ≤ 32768 ∧ Hid (f = cl s c) ∧ 0 ≤ f ∧ f ≤ 9007199254740992 ∧ Hid (∀ j, j < i → 131050 < d + 1 + cl s (p2 j)) ∧
      wr = ((w.alloc (Obj.cells #[Value.int IntKind.i64 s] 2)).alloc (Obj.cells #[Value.bool false, Value.int IntKind.i64 0, Value.int IntKind.i64 0, Value.int IntKind.i64 0, Value.int IntKind.i64 0, Value.int IntKind.i64 0, Value.int IntKind.i64 0, Value.int IntKind.i64 0] 32)).alloc (Obj.cells #[Value.bool true, Value.int IntKind.i64 c, Value.int IntKind.i64 0, Value.int IntKind.i64 0, Value.int IntKind.i64 0, Value.int IntKind.i64 0, Value.int IntKind.i64 (d + 1), Value.int IntKind.i64 f] 32))
    (fun _ wr => (32768 - intOf ((wr.cell? ⟨w.heap.size + 1 + 1, 1, none⟩).getD (.int .i64 0))).toNat)
  case atStart => exact ⟨0, 512, cl s 512, Nat.zero_le _, p2_vals.1.symm, by omega, by omega, rfl, (cl_bound s 512 hs0 hs1 (by omega)).1, (cl_bound s 512 hs0 hs1 (by omega)).2, (fun j hj => absurd hj (by omega)), rfl⟩
  case round =>
    obtain ⟨i, c, f, hi, HC, hc1, hc2, HF, hf1, hf2, HJ, rfl⟩ := hrel
    by_cases h1 : 131050 < d + 1 + f
    · by_cases h2 : c < 32768
      · go_wp2_with ((go_at_call 17; refine (clusters_any _ _ _ _ (by go_simp) hs0 hs1 (by omega) (by omega)).mono ?_; rintro e w' ⟨rfl, rfl⟩))
        have hi6 : i < 6 := p2_lt i hi (by rw [← HC.out]; exact h2)
        go_roundw
        case rel =>
          refine ⟨i + 1, c * 2, cl s (c * 2), by omega, by show _ = _; rw [p2_succ, HC.out], by omega, ?_, rfl, (cl_bound s (c * 2) hs0 hs1 (by omega)).1, (cl_bound s (c * 2) hs0 hs1 (by omega)).2, ?_, rfl⟩
          · have := (p2_bound (i + 1) (by omega)).2
            rw [p2_succ, ← HC.out] at this
            exact this
          · intro j hj
            by_cases e : j = i
            · rw [e, ← HC.out, ← HF.out]; omega
            · exact HJ.out j (by omega)
        case measure => simp only [cell_third]; simp [intOf]; omega
      · skip
        go_wp2_with ((go_at_call 18; refine (sectors_any _ _ (by omega) (by omega)).mono ?_; rintro e w' ⟨rfl, rfl⟩))
        obtain rfl := HC.out
        obtain rfl := HF.out
        exact bodyPost_ret (v := .agg #[.bool true, .int .i64 (p2 i), .int .i64 (d + 1 + cl s (p2 i)), .int .i64 32, .int .i64 (((2 + (d + 1 + cl s (p2 i))) * 4 + 512 - 1) / 512), .int .i64 0, .int .i64 (d + 1), .int .i64 (cl s (p2 i))]) (by simp [results, Try.results15, go_sem]) rfl
          ⟨i, hi, .inl (Nat.le_antisymm hi (Nat.not_lt.1 fun h => by have := p2_small i h; omega)), HJ.out, rfl, (((Below.refl _ _).alloc (Nat.le_refl _) _).alloc (by simp) _).alloc (by simp; omega) _⟩
    · skip
      go_wp2_with ((go_at_call 18; refine (sectors_any _ _ (by omega) (by omega)).mono ?_; rintro e w' ⟨rfl, rfl⟩))
      obtain rfl := HC.out
      obtain rfl := HF.out
      exact bodyPost_ret (v := .agg #[.bool true, .int .i64 (p2 i), .int .i64 (d + 1 + cl s (p2 i)), .int .i64 32, .int .i64 (((2 + (d + 1 + cl s (p2 i))) * 4 + 512 - 1) / 512), .int .i64 0, .int .i64 (d + 1), .int .i64 (cl s (p2 i))]) (by simp [results, Try.results15, go_sem]) rfl
        ⟨i, hi, .inr (by omega), HJ.out, rfl, (((Below.refl _ _).alloc (Nat.le_refl _) _).alloc (by simp) _).alloc (by simp; omega) _⟩
end Go.Proofs.Qxb6601776a

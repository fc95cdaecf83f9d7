import Derived.Test.Qxb6601776aForm
namespace Go.Proofs.Qxb6601776a
open Go.ChangeShapes Go.WideShapes Go.ChangeAt Go.RowKit
/-- kk is the last that fits, coming down from 15 to jj + 1 -/
def Scan (d s : Int) (jj kk : Nat) : Prop := 9 ≤ kk ∧ kk ≤ 15 ∧ (kk = 15 ∨ (d + 1 + cl s (pw kk) ≤ 131050 ∧ jj < kk)) ∧ ∀ x, jj < x → x < kk → 131050 < d + 1 + cl s (pw x)
theorem scan_start (d s : Int) : Scan d s 15 15 := ⟨by omega, by omega, .inl rfl, fun x h1 h2 => by omega⟩
theorem scan_hit {d s : Int} {jj kk : Nat} (_h : Scan d s (jj + 1) kk) (h9 : 9 ≤ jj + 1) (h15 : jj + 1 ≤ 15) (hf : d + 1 + cl s (pw (jj + 1)) ≤ 131050) : Scan d s jj (jj + 1) :=
  ⟨h9, h15, .inr ⟨hf, by omega⟩, fun x h1 h2 => by omega⟩
theorem scan_miss {d s : Int} {jj kk : Nat} (h : Scan d s (jj + 1) kk) (hf : 131050 < d + 1 + cl s (pw (jj + 1))) : Scan d s jj kk := by
  obtain ⟨h1, h2, h3, h4⟩ := h
  refine ⟨h1, h2, h3.elim .inl (fun ⟨a, b⟩ => .inr ⟨a, by omega⟩), fun x hx hk => ?_⟩
  by_cases e : x = jj + 1
  · rw [e]; exact hf
  · exact h4 x (by omega) hk
theorem scan_end {d s : Int} {kk i : Nat} (h : Scan d s 8 kk) (hi : i ≤ 6) (h2 : i = 6 ∨ d + 1 + cl s (p2 i) ≤ 131050) (h3 : ∀ j, j < i → 131050 < d + 1 + cl s (p2 j)) : kk = 9 + i := by
  obtain ⟨g1, g2, g3, g4⟩ := h
  rcases Nat.lt_trichotomy kk (9 + i) with e | e | e
  · have := h3 (kk - 9) (by omega)
    rw [← pw_p2, show 9 + (kk - 9) = kk by omega] at this
    omega
  · exact e
  · have := g4 (9 + i) (by omega) e
    rw [pw_p2] at this
    omega
set_option maxHeartbeats 8000000 in
theorem form32 (d s : Int) (w : World) (hd0 : 0 ≤ d) (hd1 : d ≤ 72057594037927936) (hs0 : 0 ≤ s) (hs1 : s ≤ 4611686018427387904) (hf : ¬ d + (s + 512 - 1) / 512 ≤ 65524) :
    Calls Try.prog 3 #[.int .i64 d, .int .i64 s] w fun e w' => e = .returned (.bool true) ∧ Below w.heap.size w w' := by
  have hp := zzplan32 d s w hd0 hd1 hs0 hs1 hf
  go_enter Try.func3, Try.ntmps3
  go_wp2_with fail
  refine hp.mono ?_
  clear hp
  rintro e w1 ⟨i, h1, h2, h3, rfl, hb⟩
  have H2 : Hid (i = 6 ∨ d + 1 + cl s (p2 i) ≤ 131050) := h2
  have H3 : Hid (∀ j, j < i → 131050 < d + 1 + cl s (p2 j)) := h3
  clear h2 h3
  go_wp2_with fail
  refine (ceil9 s _ hs0 hs1).mono ?_
  rintro e w' ⟨rfl, rfl⟩
  have h9 : 65524 < d + cl s 512 := hf
  have hc9 := cl_bound s 512 hs0 hs1 (by omega)
  obtain ⟨c9a, c9b⟩ := hc9
  go_wp2_with fail
  go_loop [15, 16] (fun k j => ∃ jj kk : Nat, 8 ≤ jj ∧ jj ≤ 15 ∧ j = .int .i64 jj ∧ k = .int .u64 kk ∧ Hid (Scan d s jj kk)) (fun _ j => (intOf j).toNat)
  case atStart => exact ⟨15, 15, by omega, by omega, rfl, rfl, scan_start d s⟩
  case round =>
    obtain ⟨jj, kk, hj8, hj15, rfl, rfl, HS⟩ := hrel
    by_cases hlt : 9 ≤ jj
    · have hb1 := pw_bound jj hj15 hlt
      have hcb := cl_bound s (pw jj) hs0 hs1 hb1.1
      obtain ⟨ca, cb⟩ := hcb
      clear hb1
      obtain ⟨j1, rfl⟩ : ∃ j1, jj = j1 + 1 := ⟨jj - 1, by omega⟩
      by_cases hfit : d + 1 + cl s (pw (j1 + 1)) ≤ 131050
      · go_wp2_with ((go_at_call 9; refine (ceil_any _ _ (j1 + 1) _ hs0 hs1 (by omega) (by omega) (by omega)).mono ?_; rintro e w' ⟨rfl, rfl⟩))
        go_round
        case rel => exact ⟨j1, j1 + 1, by omega, by omega, by go_num, by go_num, scan_hit HS.out (by omega) (by omega) hfit⟩
        case measure => simp [intOf]
      · go_wp2_with ((go_at_call 9; refine (ceil_any _ _ (j1 + 1) _ hs0 hs1 (by omega) (by omega) (by omega)).mono ?_; rintro e w' ⟨rfl, rfl⟩))
        go_round
        case rel => exact ⟨j1, kk, by omega, by omega, by go_num, rfl, scan_miss HS.out (by omega)⟩
        case measure => simp [intOf]
    · obtain rfl : jj = 8 := by omega
      obtain rfl := scan_end HS.out h1 H2.out H3.out
      have hi : i = 0 ∨ i = 1 ∨ i = 2 ∨ i = 3 ∨ i = 4 ∨ i = 5 ∨ i = 6 := by omega
      clear h1 H2 H3 HS hf h9 c9a c9b hlt hj8 hj15
      obtain ⟨q0, q1, q2, q3, q4, q5, q6⟩ := p2_vals
      rcases hi with rfl | rfl | rfl | rfl | rfl | rfl | rfl
      · rw [q0]
        have hcb := cl_bound s 512 hs0 hs1 (by omega)
        obtain ⟨ca, cb⟩ := hcb
        have he : (((2 + (d + 1 + cl s 512)) * 4 + 512 - 1) / 512 == cl (2 + (d + 1 + cl s 512)) 128) = true := by rw [beq_iff_eq]; unfold cl; omega
        clear q0 q1 q2 q3 q4 q5 q6
        go_wp2_with fail
        refine (ceil9 s _ hs0 hs1).mono ?_
        rintro e w' ⟨rfl, rfl⟩
        go_wp2_with fail
        refine (ceil7 _ _ (by omega) (by omega)).mono ?_
        rintro e w' ⟨rfl, rfl⟩
        go_wp2_with fail
        go_ret
        exact ⟨rfl, hb⟩
      · rw [q1]
        have hcb := cl_bound s 1024 hs0 hs1 (by omega)
        obtain ⟨ca, cb⟩ := hcb
        have he : (((2 + (d + 1 + cl s 1024)) * 4 + 512 - 1) / 512 == cl (2 + (d + 1 + cl s 1024)) 128) = true := by rw [beq_iff_eq]; unfold cl; omega
        clear q0 q1 q2 q3 q4 q5 q6
        go_wp2_with fail
        refine (ceil10 s _ hs0 hs1).mono ?_
        rintro e w' ⟨rfl, rfl⟩
        go_wp2_with fail
        refine (ceil7 _ _ (by omega) (by omega)).mono ?_
        rintro e w' ⟨rfl, rfl⟩
        go_wp2_with fail
        go_ret
        exact ⟨rfl, hb⟩
      · rw [q2]
        have hcb := cl_bound s 2048 hs0 hs1 (by omega)
        obtain ⟨ca, cb⟩ := hcb
        have he : (((2 + (d + 1 + cl s 2048)) * 4 + 512 - 1) / 512 == cl (2 + (d + 1 + cl s 2048)) 128) = true := by rw [beq_iff_eq]; unfold cl; omega
        clear q0 q1 q2 q3 q4 q5 q6
        go_wp2_with fail
        refine (ceil11 s _ hs0 hs1).mono ?_
        rintro e w' ⟨rfl, rfl⟩
        go_wp2_with fail
        refine (ceil7 _ _ (by omega) (by omega)).mono ?_
        rintro e w' ⟨rfl, rfl⟩
        go_wp2_with fail
        go_ret
        exact ⟨rfl, hb⟩
      · rw [q3]
        have hcb := cl_bound s 4096 hs0 hs1 (by omega)
        obtain ⟨ca, cb⟩ := hcb
        have he : (((2 + (d + 1 + cl s 4096)) * 4 + 512 - 1) / 512 == cl (2 + (d + 1 + cl s 4096)) 128) = true := by rw [beq_iff_eq]; unfold cl; omega
        clear q0 q1 q2 q3 q4 q5 q6
        go_wp2_with fail
        refine (ceil12 s _ hs0 hs1).mono ?_
        rintro e w' ⟨rfl, rfl⟩
        go_wp2_with fail
        refine (ceil7 _ _ (by omega) (by omega)).mono ?_
        rintro e w' ⟨rfl, rfl⟩
        go_wp2_with fail
        go_ret
        exact ⟨rfl, hb⟩
      · rw [q4]
        have hcb := cl_bound s 8192 hs0 hs1 (by omega)
        obtain ⟨ca, cb⟩ := hcb
        have he : (((2 + (d + 1 + cl s 8192)) * 4 + 512 - 1) / 512 == cl (2 + (d + 1 + cl s 8192)) 128) = true := by rw [beq_iff_eq]; unfold cl; omega
        clear q0 q1 q2 q3 q4 q5 q6
        go_wp2_with fail
        refine (ceil13 s _ hs0 hs1).mono ?_
        rintro e w' ⟨rfl, rfl⟩
        go_wp2_with fail
        refine (ceil7 _ _ (by omega) (by omega)).mono ?_
        rintro e w' ⟨rfl, rfl⟩
        go_wp2_with fail
        go_ret
        exact ⟨rfl, hb⟩
      · rw [q5]
        have hcb := cl_bound s 16384 hs0 hs1 (by omega)
        obtain ⟨ca, cb⟩ := hcb
        have he : (((2 + (d + 1 + cl s 16384)) * 4 + 512 - 1) / 512 == cl (2 + (d + 1 + cl s 16384)) 128) = true := by rw [beq_iff_eq]; unfold cl; omega
        clear q0 q1 q2 q3 q4 q5 q6
        go_wp2_with fail
        refine (ceil14 s _ hs0 hs1).mono ?_
        rintro e w' ⟨rfl, rfl⟩
        go_wp2_with fail
        refine (ceil7 _ _ (by omega) (by omega)).mono ?_
        rintro e w' ⟨rfl, rfl⟩
        go_wp2_with fail
        go_ret
        exact ⟨rfl, hb⟩
      · rw [q6]
        have hcb := cl_bound s 32768 hs0 hs1 (by omega)
        obtain ⟨ca, cb⟩ := hcb
        have he : (((2 + (d + 1 + cl s 32768)) * 4 + 512 - 1) / 512 == cl (2 + (d + 1 + cl s 32768)) 128) = true := by rw [beq_iff_eq]; unfold cl; omega
        clear q0 q1 q2 q3 q4 q5 q6
        go_wp2_with fail
        refine (ceil15 s _ hs0 hs1).mono ?_
        rintro e w' ⟨rfl, rfl⟩
        go_wp2_with fail
        refine (ceil7 _ _ (by omega) (by omega)).mono ?_
        rintro e w' ⟨rfl, rfl⟩
        go_wp2_with fail
        go_ret
        exact ⟨rfl, hb⟩
set_option maxHeartbeats 400000 in
theorem form (d s : Int) (w : World) (_hdw : -9223372036854775808 ≤ d ∧ d ≤ 9223372036854775807) (_hsw : -9223372036854775808 ≤ s ∧ s ≤ 9223372036854775807) :
    Calls Try.prog 3 #[.int .i64 d, .int .i64 s] w fun e w' => e = .returned (.bool true) ∧ Below w.heap.size w w' := by
  by_cases g : 0 ≤ d ∧ d ≤ 72057594037927936 ∧ 0 ≤ s ∧ s ≤ 4611686018427387904
  · obtain ⟨hd0, hd1, hs0, hs1⟩ := g
    by_cases hf : d + (s + 512 - 1) / 512 ≤ 65524
    · exact form16 d s w hd0 hd1 hs0 hs1 hf
    · exact form32 d s w hd0 hd1 hs0 hs1 hf
  · go_enter Try.func3, Try.ntmps3
    go_wp2_with fail
    all_goals first | (go_ret; exact ⟨rfl, Below.refl _ _⟩) | (exfalso; omega)
end Go.Proofs.Qxb6601776a

import Derived.Test.Qxb6601477aEquivLaw
import Derived.Test.Qxb6601477aXor
namespace Go.Proofs.Qxb6601477a
open Go.ChangeShapes Go.WideShapes Go.ChangeAt Go.RowKit
theorem zzmasked_len (pa pb pm : Option Addr) (ca cb cm n : Nat) (a b m : List Int) (w : World) (ha : Src w pa a) (hb : Src w pb b) (hm : Src w pm m) (hn : m.length = n) (h1 : n ≤ a.length) (h2 : n ≤ b.length) (hl : n ≤ 1048576) :
    Calls Try.prog 19 #[.slice pa a.length ca, .slice pb b.length cb, .slice pm n cm] w fun e w' => e = .returned (.bool (mEq a b m n)) ∧ ∃ n, w' = w.drewN n := by
  subst hn
  exact zzmasked_any pa pb pm ca cb cm a b m w ha hb hm h1 h2 hl
theorem at0_rep (n j : Nat) : at0 (List.replicate n 0) j = 0 := by
  unfold at0
  simp only [List.getD_eq_getElem?_getD, List.getElem?_replicate]
  split <;> rfl
theorem mEq_zero (a b : List Int) (l n : Nat) : mEq a b (List.replicate l 0) n = true := by
  rw [mEq_iff]
  intro j _
  rw [at0_rep, and_u8, and_u8]
  simp
/-- the narrower mask -/
theorem mEq_narrow {a b m s y : List Int} {l n : Nat} (h : mEq a b m l = true) (hn : n ≤ l) (hy : ∀ j, j < n → at0 y j = bits .and .u8 (at0 m j) (at0 s j)) : mEq a b y n = true := by
  rw [mEq_iff] at h ⊢
  intro j hj
  have h1 := h j (by omega)
  rw [and_u8, and_u8, toNat_same] at h1
  rw [hy j hj, and_u8, and_u8, and_u8, ofInt_toNat, toNat_same, ← BitVec.and_assoc, ← BitVec.and_assoc, h1]
theorem put_step {f : Nat → Int} {ys : List Int} {k : Nat} (h : ∀ j, j < k → at0 ys j = f j) (hk : k < ys.length) : Hid (∀ j, j < k + 1 → at0 (ys.set k (f k)) j = f j) := by
  intro j hj
  rw [at0_set _ _ _ _ hk]
  by_cases e : j = k
  · rw [if_pos e, e]
  · rw [if_neg e]; exact h j (by omega)
set_option maxHeartbeats 400000 in
theorem bytes21 (p0 p1 p2 p3 : Option Addr) (c0 c1 c2 c3 n0 n1 n2 n3 : Nat) (w : World) (h0 : n0 ≤ maxLen) (h1 : n1 ≤ maxLen) (h2 : n2 ≤ maxLen) (h3 : n3 ≤ maxLen) :
    Calls Try.prog 21 #[.slice p0 n0 c0, .slice p1 n1 c1, .slice p2 n2 c2, .slice p3 n3 c3] w fun e w' => (∃ r, e = .returned (.bool r)) ∧ w' = w := by
  unfold maxLen at h0 h1 h2 h3
  go_enter Try.func21, Try.ntmps21
  go_wp2
  all_goals
    go_ret
    exact ⟨⟨_, rfl⟩, rfl⟩
set_option maxHeartbeats 1000000 in
theorem law10 (pa pb pm ps : Option Addr) (ca cb cm cs : Nat) (a b m s : List Int) (w : World) (ha : Src w pa a) (hb : Src w pb b) (hm : Src w pm m) (hs : Src w ps s)
    (na : pa = none → a = [] ∧ ca = 0) (nb : pb = none → b = [] ∧ cb = 0) (nm : pm = none → m = [] ∧ cm = 0) (ns : ps = none → s = [] ∧ cs = 0) (la : a.length ≤ maxLen) (lb : b.length ≤ maxLen) (lm : m.length ≤ maxLen) (ls : s.length ≤ maxLen) :
    Calls Try.prog 10 #[.slice pa a.length ca, .slice pb b.length cb, .slice pm m.length cm, .slice ps s.length cs] w fun e w' => e = .returned (.bool true) ∧ Below w.heap.size w w' := by
  have hz := bytes21 pa pb pm ps ca cb cm cs a.length b.length m.length s.length w la lb lm ls
  unfold maxLen at la lb lm ls
  by_cases g : a.length ≤ 65536 ∧ b.length ≤ 65536 ∧ m.length ≤ 65536 ∧ s.length ≤ 65536 ∧ m.length ≤ a.length ∧ m.length ≤ b.length
  · obtain ⟨g1, g2, g3, g3', g4, g5⟩ := g
    go_enter Try.func10, Try.ntmps10
    go_wp2_with fail
    refine hz.mono ?_
    clear hz
    rintro e w' ⟨⟨r, rfl⟩, rfl⟩
    cases r
    · go_wp2_with fail
      go_ret
      exact ⟨rfl, Below.refl _ _⟩
    · go_wp2_with fail
      refine (clone_any _ _ _ _ ha na (by omega)).mono ?_
      rintro e w1 ⟨qa, rfl, oa, b1⟩
      replace hb := hb.below b1
      replace hm := hm.below b1
      replace hs := hs.below b1
      clear ha na
      go_wp2_with fail
      refine (clone_any _ _ _ _ hb nb (by omega)).mono ?_
      rintro e w2 ⟨qb, rfl, ob, b2⟩
      replace hm := hm.below b2
      replace hs := hs.below b2
      replace oa := oa.below b2
      replace b1 := b1.trans (b2.mono b1.size)
      clear hb nb b2
      go_wp2_with fail
      refine (clone_any _ _ _ _ hm nm (by omega)).mono ?_
      rintro e w3 ⟨qm, rfl, om, b3⟩
      replace hs := hs.below b3
      replace oa := oa.below b3
      replace ob := ob.below b3
      replace b1 := b1.trans (b3.mono b1.size)
      clear hm nm b3
      go_wp2_with fail
      refine (clone_any _ _ _ _ hs ns (by omega)).mono ?_
      rintro e w4 ⟨qs, rfl, os, b4⟩
      replace oa := (oa.below b4).src
      replace ob := (ob.below b4).src
      replace om := (om.below b4).src
      replace os := os.src
      replace b1 := b1.trans (b4.mono b1.size)
      clear hs ns b4
      have hmk := run_make_row' (P := Try.prog) 22 5 (.int .u8 0) 1 Try.underlying22 info5 rfl .i64 .i64 m.length (by omega) (by omega)
      rw [made_u8s] at hmk
      have b5 := (Below.refl w4.heap.size w4).alloc (Nat.le_refl _) (.cells (u8s (List.replicate m.length 0)) 5)
      have oz : Own (w4.alloc (.cells (u8s (List.replicate m.length 0)) 5)) (some ⟨w4.heap.size, 0, none⟩) (List.replicate m.length 0) := .inr ⟨_, rfl, heap_alloc_new _ _⟩
      have r1 := mEq_zero a b m.length m.length
      go_wp2_with fail
      refine (zzmasked_len _ _ _ _ _ _ _ _ _ _ _ (oa.below b5) (ob.below b5) oz.src (by simp) g4 g5 (by omega)).mono ?_
      rintro e w' ⟨rfl, n1, rfl⟩
      replace oa := (oa.below b5).drewN' n1
      replace ob := (ob.below b5).drewN' n1
      replace om := (om.below b5).drewN' n1
      replace os := (os.below b5).drewN' n1
      replace b1 := below_drewN (b1.trans (b5.mono b1.size)) n1
      clear oz b5 hmk
      generalize (w4.alloc (.cells (u8s (List.replicate m.length 0)) 5)).drewN n1 = W at *
      by_cases hlt : s.length < m.length
      · have hle : s.length ≤ m.length := by omega
        have hle2 : s.length ≤ s.length := by omega
        have hmk := run_make_row' (P := Try.prog) 22 5 (.int .u8 0) 1 Try.underlying22 info5 rfl .i64 .i64 s.length (by omega) (by omega)
        rw [made_u8s] at hmk
        have b5 := (Below.refl W.heap.size W).alloc (Nat.le_refl _) (.cells (u8s (List.replicate s.length 0)) 5)
        have hg := heap_alloc_new W (.cells (u8s (List.replicate s.length 0)) 5)
        go_wp2_with fail
        clear hmk
        generalize W.alloc (.cells (u8s (List.replicate s.length 0)) 5) = W1 at *
        go_loopw [11] (fun i wr => ∃ (k : Nat) (ys : List Int), k ≤ s.length ∧ i = .int .i64 k ∧ Hid (ys.length = s.length) ∧ Hid (∀ j, j < k → at0 ys j = bits .and .u8 (at0 m j) (at0 s j)) ∧ wr.heap[W.heap.size]? = some (.cells (u8s ys) 5) ∧ Below W.heap.size W wr) (fun i _ => s.length - (intOf i).toNat)
        case atStart => exact ⟨0, List.replicate s.length 0, Nat.zero_le _, rfl, by simp [Hid], (fun j hj => absurd hj (by omega)), hg, b5⟩
        case round =>
          obtain ⟨k, ys, hk, rfl, HYL, HY, hh, hbw⟩ := hrel
          clear hg b5
          by_cases hk' : k < s.length
          · rcases om with h | ⟨B1, o1, rfl, hb1, c1⟩
            · subst h; simp only [List.length_nil] at *; omega
            rcases os with h | ⟨B2, o2, rfl, hb2, c2⟩
            · subst h; simp only [List.length_nil] at *; omega
            replace c1 := (hbw.cell (p := ⟨B1, o1 + k, none⟩) hb1).trans (c1 k (by omega))
            replace c2 := (hbw.cell (p := ⟨B2, o2 + k, none⟩) hb2).trans (c2 k (by omega))
            have c3 := cell_of_row wr _ k _ _ _ hh
            rw [u8s_get ys k (by rw [HYL.out]; exact hk')] at c3
            have c4 := frozen_of_row wr _ k _ _ hh
            have hh2 := heap_setCell_same wr W.heap.size k _ _ (.int .u8 (bits .and .u8 (at0 m k) (at0 s k))) hh
            rw [u8s_set] at hh2
            have HH : Hid ((wr.setCell ⟨W.heap.size, k, none⟩ (.int .u8 (bits .and .u8 (at0 m k) (at0 s k)))).heap[W.heap.size]? = some (.cells (u8s (ys.set k (bits .and .u8 (at0 m k) (at0 s k)))) 5)) := hh2
            have hk0 : (0 : Int) ≤ (k : Int) := by omega
            have hk1 : (k : Int) < (m.length : Int) := by omega
            have hk2 : (k : Int) < (s.length : Int) := by omega
            have hk3 : (k : Int) < (s.length : Int) := by omega
            clear hh hh2 oa ob
            go_wp2
            go_region
            all_goals
              go_wp2
              go_roundw
              case rel => exact ⟨k + 1, ys.set k (bits .and .u8 (at0 m k) (at0 s k)), by omega, by go_num, (by show _ = _; simpa using HYL.out), put_step (f := fun j => bits .and .u8 (at0 m j) (at0 s j)) HY.out (by rw [HYL.out]; exact hk'), HH.out, (hbw.setCell (Nat.le_refl _) _).drew⟩
              case measure => simp [intOf]; omega
          · obtain rfl : k = s.length := by omega
            replace oa := oa.below hbw
            replace ob := ob.below hbw
            replace om := om.below hbw
            replace b1 := b1.trans (hbw.mono b1.size)
            have on : Own wr (some ⟨W.heap.size, 0, none⟩) ys := .inr ⟨_, rfl, hh⟩
            clear os hh hbw
            cases e1 : mEq a b m m.length
            · go_wp2_with fail
              refine (zzmasked_any _ _ _ _ _ _ _ _ _ _ oa ob om g4 g5 (by omega)).mono ?_
              rintro e w' ⟨rfl, n2, rfl⟩
              go_wp2_with fail
              go_ret
              exact ⟨rfl, below_drewN b1 _⟩
            · have r3 := mEq_narrow e1 hle HY.out
              go_wp2_with fail
              refine (zzmasked_any _ _ _ _ _ _ _ _ _ _ oa ob om g4 g5 (by omega)).mono ?_
              rintro e w' ⟨rfl, n2, rfl⟩
              go_wp2_with fail
              refine (zzmasked_len _ _ _ _ _ _ _ _ _ _ _ (oa.drewN' _) (ob.drewN' _) (on.src.drewN' _) HYL.out (by omega) (by omega) (by omega)).mono ?_
              rintro e w' ⟨rfl, n3, rfl⟩
              go_wp2_with fail
              go_ret
              exact ⟨rfl, below_drewN b1 _⟩
      · have hle : m.length ≤ m.length := by omega
        have hle2 : m.length ≤ s.length := by omega
        have hmk := run_make_row' (P := Try.prog) 22 5 (.int .u8 0) 1 Try.underlying22 info5 rfl .i64 .i64 m.length (by omega) (by omega)
        rw [made_u8s] at hmk
        have b5 := (Below.refl W.heap.size W).alloc (Nat.le_refl _) (.cells (u8s (List.replicate m.length 0)) 5)
        have hg := heap_alloc_new W (.cells (u8s (List.replicate m.length 0)) 5)
        go_wp2_with fail
        clear hmk
        generalize W.alloc (.cells (u8s (List.replicate m.length 0)) 5) = W1 at *
        go_loopw [11] (fun i wr => ∃ (k : Nat) (ys : List Int), k ≤ m.length ∧ i = .int .i64 k ∧ Hid (ys.length = m.length) ∧ Hid (∀ j, j < k → at0 ys j = bits .and .u8 (at0 m j) (at0 s j)) ∧ wr.heap[W.heap.size]? = some (.cells (u8s ys) 5) ∧ Below W.heap.size W wr) (fun i _ => m.length - (intOf i).toNat)
        case atStart => exact ⟨0, List.replicate m.length 0, Nat.zero_le _, rfl, by simp [Hid], (fun j hj => absurd hj (by omega)), hg, b5⟩
        case round =>
          obtain ⟨k, ys, hk, rfl, HYL, HY, hh, hbw⟩ := hrel
          clear hg b5
          by_cases hk' : k < m.length
          · rcases om with h | ⟨B1, o1, rfl, hb1, c1⟩
            · subst h; simp only [List.length_nil] at *; omega
            rcases os with h | ⟨B2, o2, rfl, hb2, c2⟩
            · subst h; simp only [List.length_nil] at *; omega
            replace c1 := (hbw.cell (p := ⟨B1, o1 + k, none⟩) hb1).trans (c1 k (by omega))
            replace c2 := (hbw.cell (p := ⟨B2, o2 + k, none⟩) hb2).trans (c2 k (by omega))
            have c3 := cell_of_row wr _ k _ _ _ hh
            rw [u8s_get ys k (by rw [HYL.out]; exact hk')] at c3
            have c4 := frozen_of_row wr _ k _ _ hh
            have hh2 := heap_setCell_same wr W.heap.size k _ _ (.int .u8 (bits .and .u8 (at0 m k) (at0 s k))) hh
            rw [u8s_set] at hh2
            have HH : Hid ((wr.setCell ⟨W.heap.size, k, none⟩ (.int .u8 (bits .and .u8 (at0 m k) (at0 s k)))).heap[W.heap.size]? = some (.cells (u8s (ys.set k (bits .and .u8 (at0 m k) (at0 s k)))) 5)) := hh2
            have hk0 : (0 : Int) ≤ (k : Int) := by omega
            have hk1 : (k : Int) < (m.length : Int) := by omega
            have hk2 : (k : Int) < (s.length : Int) := by omega
            have hk3 : (k : Int) < (m.length : Int) := by omega
            clear hh hh2 oa ob
            go_wp2
            go_region
            all_goals
              go_wp2
              go_roundw
              case rel => exact ⟨k + 1, ys.set k (bits .and .u8 (at0 m k) (at0 s k)), by omega, by go_num, (by show _ = _; simpa using HYL.out), put_step (f := fun j => bits .and .u8 (at0 m j) (at0 s j)) HY.out (by rw [HYL.out]; exact hk'), HH.out, (hbw.setCell (Nat.le_refl _) _).drew⟩
              case measure => simp [intOf]; omega
          · obtain rfl : k = m.length := by omega
            replace oa := oa.below hbw
            replace ob := ob.below hbw
            replace om := om.below hbw
            replace b1 := b1.trans (hbw.mono b1.size)
            have on : Own wr (some ⟨W.heap.size, 0, none⟩) ys := .inr ⟨_, rfl, hh⟩
            clear os hh hbw
            cases e1 : mEq a b m m.length
            · go_wp2_with fail
              refine (zzmasked_any _ _ _ _ _ _ _ _ _ _ oa ob om g4 g5 (by omega)).mono ?_
              rintro e w' ⟨rfl, n2, rfl⟩
              go_wp2_with fail
              go_ret
              exact ⟨rfl, below_drewN b1 _⟩
            · have r3 := mEq_narrow e1 hle HY.out
              go_wp2_with fail
              refine (zzmasked_any _ _ _ _ _ _ _ _ _ _ oa ob om g4 g5 (by omega)).mono ?_
              rintro e w' ⟨rfl, n2, rfl⟩
              go_wp2_with fail
              refine (zzmasked_len _ _ _ _ _ _ _ _ _ _ _ (oa.drewN' _) (ob.drewN' _) (on.src.drewN' _) HYL.out (by omega) (by omega) (by omega)).mono ?_
              rintro e w' ⟨rfl, n3, rfl⟩
              go_wp2_with fail
              go_ret
              exact ⟨rfl, below_drewN b1 _⟩
  · go_enter Try.func10, Try.ntmps10
    go_wp2_with fail
    refine hz.mono ?_
    clear hz
    rintro e w' ⟨⟨r, rfl⟩, rfl⟩
    cases r
    · go_wp2_with fail
      go_ret
      exact ⟨rfl, Below.refl _ _⟩
    · go_wp2_with fail
      all_goals first | (go_ret; exact ⟨rfl, Below.refl _ _⟩) | (exfalso; omega)
end Go.Proofs.Qxb6601477a

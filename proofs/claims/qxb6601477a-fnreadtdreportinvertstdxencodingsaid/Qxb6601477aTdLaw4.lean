import Derived.Test.Qxb6601477aTdLaw3
import Derived.Test.Qxb6601477aTdInvOps
namespace Go.Proofs.Qxb6601477a
open Go.ChangeShapes Go.WideShapes Go.ChangeAt Go.RowKit
set_option maxHeartbeats 400000 in
theorem bytes15 (fs : List Int) (p : Option Addr) (c n : Nat) (w : World) (h0 : n ≤ maxLen) :
    Calls Try.prog 15 #[.agg (u8s fs), .slice p n c] w fun e w' => (∃ r, e = .returned (.bool r)) ∧ Below w.heap.size w w' := by
  unfold maxLen at h0
  go_enter Try.func15, Try.ntmps15
  go_wp2
  all_goals
    go_ret
    exact ⟨⟨_, rfl⟩, (Below.refl _ _).alloc (Nat.le_refl _) _⟩
/-- One field laid into the buffer. -/
theorem put_field (F B : Nat) (fs ys : List Int) (N off n : Nat) (z : Int) (w : World) (hF : w.heap[F]? = some (.cells (u8s fs) 35)) (hB : w.heap[B]? = some (.cells (u8s ys) 5)) (hFB : F ≠ B) (hl : fs.length = 584) (hN : 584 ≤ N) (hN2 : N ≤ 2097152)
    (hP : Pre fs ys N off) (hfit : off + n ≤ 584) (hz : z = (off : Int)) :
    Calls Try.prog 16 #[.slice (some ⟨B, 0, none⟩) N N, .int .i64 z, .slice (some ⟨F, off, none⟩) n n] w fun e w' => e = .returned (.tuple #[]) ∧ ∃ zs, w'.heap[B]? = some (.cells (u8s zs) 5) ∧ Pre fs zs N (off + n) ∧ Only B w w' := by
  subst hz
  have hyl := hP.1
  have hlen : (seg fs off n).length = n := seg_len (by omega)
  have hs : Src w (some ⟨F, off, none⟩) (seg fs off n) := .inr ⟨F, off, rfl, lt_of_heap hF, fun j hj => by
    rw [hlen] at hj
    rw [cell_of_row _ _ _ _ _ _ hF, u8s_get fs (off + j) (by omega), at0_seg _ _ _ _ hj]⟩
  have := put_any B ys (seg fs off n) off (some ⟨F, off, none⟩) n w hB hs (fun b o h => by simp at h; omega) (by omega) (by omega)
  rw [hlen, hyl] at this
  exact this.mono fun e w' ⟨h1, h2, h3⟩ => ⟨h1, _, h2, hP.step (by omega) (by omega), h3⟩
theorem zzreadTD_len (p : Option Addr) (cap n : Nat) (xs : List Int) (w : World) (h : Src w p xs) (hn : xs.length = n) (hc : n ≤ cap) :
    Calls Try.prog 13 #[.slice p n cap] w fun e w' => ∃ ys, e = .returned (.pointer (some ⟨w.heap.size, 0, none⟩)) ∧ w'.heap[w.heap.size]? = some (.cells (u8s ys) 34) ∧ Rep xs ys 15 ∧ Below w.heap.size w w' := by
  subst hn
  exact zzreadTD p cap xs w h hc
theorem Pre.set {fs ys : List Int} {N e i : Nat} {v : Int} (h : Pre fs ys N e) (he : e ≤ i) (hi : i < N) : Hid (Pre fs (ys.set i v) N e) := by
  refine ⟨by rw [List.length_set]; exact h.1, fun j hj => ?_⟩
  rw [at0_set _ _ _ _ (by rw [h.1]; exact hi), if_neg (by omega)]
  exact h.2 j hj
set_option maxHeartbeats 8000000 in
set_option maxRecDepth 100000 in
theorem law4 (fs : List Int) (pa : Option Addr) (ca : Nat) (a : List Int) (w : World) (hfl : fs.length = 584) (ha : Src w pa a) (na : pa = none → a = [] ∧ ca = 0) (la : a.length ≤ maxLen) :
    Calls Try.prog 4 #[.agg (u8s fs), .slice pa a.length ca] w fun e w' => e = .returned (.bool true) ∧ Below w.heap.size w w' := by
  have b0 := (Below.refl w.heap.size w).alloc (Nat.le_refl _) (.cells (u8s fs) 35)
  have hF := heap_alloc_new w (.cells (u8s fs) 35)
  have hz := bytes15 fs pa ca a.length (w.alloc (.cells (u8s fs) 35)) la
  have ha := ha.below b0
  unfold maxLen at la
  go_enter Try.func4, Try.ntmps4
  go_wp2_with (refine wpList_load35 rfl _ rfl _ rfl fs hF hfl ?_)
  refine hz.mono ?_
  clear hz
  generalize w.alloc (.cells (u8s fs) 35) = W0 at *
  rintro e w1 ⟨⟨r, rfl⟩, b1⟩
  have hlt := lt_of_heap hF
  replace hF := (b1.block _ hlt).trans hF
  replace ha := ha.below b1
  replace b0 := b0.trans (b1.mono b0.size)
  clear b1 hlt
  by_cases g : a.length ≤ 65536
  · cases r
    · go_wp2_with fail
      go_ret
      exact ⟨rfl, b0⟩
    · go_wp2_with fail
      refine (clone_any _ _ _ _ ha na (by omega)).mono ?_
      rintro e w2 ⟨qa, rfl, oa, b1⟩
      replace hF := (b1.block _ (lt_of_heap hF)).trans hF
      replace oa := oa.src
      replace b0 := b0.trans (b1.mono b0.size)
      clear ha na b1
      have hmk := run_make_row' (P := Try.prog) 22 5 (.int .u8 0) 1 Try.underlying22 info5 rfl .i64 .i64 (584 + a.length) (by omega) (by omega)
      rw [made_u8s] at hmk
      have ec : ((584 + a.length : Nat) : Int) = 584 + (a.length : Int) := by omega
      rw [ec] at hmk
      clear ec
      go_wp2_with fail
      clear hmk
      have hFlt := lt_of_heap hF
      have hFB : w.heap.size ≠ w2.heap.size := by omega
      have hB := heap_alloc_new w2 (.cells (u8s (List.replicate (584 + a.length) 0)) 5)
      have hb2 := (Below.refl w2.heap.size w2).alloc (Nat.le_refl _) (.cells (u8s (List.replicate (584 + a.length) 0)) 5)
      replace hF := (hb2.block _ hFlt).trans hF
      have hP : Pre fs (List.replicate (584 + a.length) 0) (584 + a.length) 0 := ⟨List.length_replicate, fun j hj => absurd hj (by omega)⟩
      generalize w2.alloc (.cells (u8s (List.replicate (584 + a.length) 0)) 5) = W at *
      generalize List.replicate (584 + a.length) (0 : Int) = ys at *
      generalize hBe : w2.heap.size = B at *
      generalize hFe : w.heap.size = F at *
      have HB : Hid (w2.heap.size = B) := hBe
      have HFe : Hid (w.heap.size = F) := hFe
      clear hBe hFe
      have HOA : Hid (Src w2 qa a) := oa
      have HB0 : Hid (Below F w w2) := b0
      have HHB : Hid (W.heap[B]? = some (.cells (u8s ys) 5)) := hB
      have HHF : Hid (W.heap[F]? = some (.cells (u8s fs) 35)) := hF
      have HP : Hid (Pre fs ys (584 + a.length) 0) := hP
      have HB2 : Hid (Below B w2 W) := hb2
      clear oa b0 hB hF hP hb2
      go_wp2_with ((go_at_call 16; refine (put_field F B fs _ (584 + a.length) _ _ _ _ HHF.out HHB.out hFB hfl (by omega) (by omega) (by exact HP.out) (by omega) (by rfl)).mono ?_; rintro e w' ⟨rfl, zs, hB', hP', hO⟩; replace HHF : Hid _ := (hO.block F hFB).trans HHF.out; replace HHB : Hid _ := hB'; replace HP : Hid _ := hP'; replace HB2 : Hid _ := HB2.out.trans (hO.below (Nat.le_refl _)); clear hB' hP' hO))
      replace HP : Hid (Pre fs _ (584 + a.length) 584) := HP
      go_loopw [6] (fun i wr => ∃ (k : Nat) (ys : List Int), k ≤ a.length ∧ i = .int .i64 k ∧ Hid (Pre fs ys (584 + a.length) 584) ∧ Hid (wr.heap[B]? = some (.cells (u8s ys) 5)) ∧ Hid (wr.heap[F]? = some (.cells (u8s fs) 35)) ∧ Hid (Below B w2 wr)) (fun i _ => a.length - (intOf i).toNat)
      case atStart => exact ⟨0, _, Nat.zero_le _, rfl, HP, HHB, HHF, HB2⟩
      case round =>
        clear HP HHB HHF HB2
        obtain ⟨k, ys, hk, rfl, HP, HHB, HHF, HB2⟩ := hrel
        by_cases hlt : k < a.length
        · rcases HOA.out with h | ⟨b, o1, rfl, hbl, hc⟩
          · subst h; simp at hlt
          have hbB : b < B := by rw [← HB.out]; exact hbl
          have c1 := (HB2.out.cell (p := ⟨b, o1 + k, none⟩) hbB).trans (hc k hlt)
          have c2 := cell_of_row wr _ (584 + k) _ _ _ HHB.out
          rw [u8s_get ys (584 + k) (by rw [HP.out.1]; omega)] at c2
          have c3 := frozen_of_row wr _ (584 + k) _ _ HHB.out
          have hh2 := heap_setCell_same wr B (584 + k) _ _ (.int .u8 (at0 a k)) HHB.out
          rw [u8s_set] at hh2
          have HH : Hid ((wr.setCell ⟨B, 584 + k, none⟩ (.int .u8 (at0 a k))).heap[B]? = some (.cells (u8s (ys.set (584 + k) (at0 a k))) 5)) := hh2
          have hk0 : (0 : Int) ≤ (k : Int) := by omega
          have hkI : (k : Int) < (a.length : Int) := by omega
          have hok0 : (0 : Int) ≤ 584 + (k : Int) := by omega
          have hok : 584 + (k : Int) < 584 + (a.length : Int) := by omega
          have htn : (584 + (k : Int)).toNat = 584 + k := by omega
          clear hc hh2
          go_wp2
          go_roundw
          case rel => exact ⟨k + 1, ys.set (584 + k) (at0 a k), by omega, by go_num, HP.out.set (by omega) (by omega), HH, (heap_setCell_other _ _ _ _ hFB).trans HHF.out, HB2.out.setCell (Nat.le_refl _) _⟩
          case measure => simp [intOf]; omega
        · have oy : Src wr (some ⟨B, 0, none⟩) ys := Own.src (.inr ⟨B, rfl, HHB.out⟩)
          have hrd := zzreadTD_len (some ⟨B, 0, none⟩) (584 + a.length) (584 + a.length) ys wr oy HP.out.1 (Nat.le_refl _)
          have HBl : Hid (B < wr.heap.size) := lt_of_heap HHB.out
          have HFl : Hid (F < wr.heap.size) := lt_of_heap HHF.out
          have hnp := eql_ptr
          go_wp2_with fail
          refine hrd.mono ?_
          clear hrd
          rintro e w3 ⟨rs, rfl, hG, hrep, b3⟩
          obtain rfl : rs = fs := ext_at0 (hrep.1.trans hfl.symm) (fun j hj => by
            have h5 : j < 584 := by rw [hrep.1] at hj; exact hj
            exact (hrep.2.1 j h5).trans (HP.out.2 j h5))
          have HG : Hid (w3.heap[wr.heap.size]? = some (.cells (u8s rs) 34)) := hG
          have HGl : Hid (wr.heap.size < w3.heap.size) := lt_of_heap hG
          replace HHF : Hid _ := (b3.block F HFl.out).trans HHF.out
          have HW : Hid (Below F w w3) := by
            have q1 : F ≤ w2.heap.size := by rw [← HFe.out]; exact (HFe.out ▸ HB0.out : Below F w w2).size
            exact (HB0.out.trans (HB2.out.mono (by rw [← HB.out]; exact q1))).trans (b3.mono (Nat.le_of_lt HFl.out))
          clear hG hrep b3 oy
          generalize wr.heap.size = G at *
          go_wp2_with (first
            | (refine wpList_loadF rfl 28 _ rfl F _ 16 rfl rs 35 _ HHF.out (by omega) Try.underlying28 rfl infos.1 ?_)
            | (refine wpList_loadF rfl 29 _ rfl F _ 48 rfl rs 35 _ HHF.out (by omega) Try.underlying29 rfl infos.2.1 ?_)
            | (refine wpList_loadF rfl 30 _ rfl F _ 8 rfl rs 35 _ HHF.out (by omega) Try.underlying30 rfl infos.2.2.1 ?_)
            | (refine wpList_loadF rfl 31 _ rfl F _ 192 rfl rs 35 _ HHF.out (by omega) Try.underlying31 rfl infos.2.2.2.1 ?_)
            | (refine wpList_loadF rfl 32 _ rfl F _ 64 rfl rs 35 _ HHF.out (by omega) Try.underlying32 rfl infos.2.2.2.2 ?_)
            | (refine wpList_build34q rfl rfl rs hfl rfl rfl rfl rfl rfl rfl rfl rfl rfl rfl rfl rfl ?_)
            | (refine wpList_alloc34 rfl rfl ?_)
            | (refine wpList_store34 rfl _ _ rfl w3.heap.size rs zero584 rfl rfl (heap_alloc_new _ _) hfl zero584_len ?_; intro w5 hG5 hO5; have H5 : Hid (w5.heap[w3.heap.size]? = some (.cells (u8s rs) 34)) := hG5; have HO : Hid (Only w3.heap.size (w3.alloc (.cells (u8s zero584) 34)) w5) := hO5; clear hG5 hO5))
          replace HG : Hid (w5.heap[G]? = some (.cells (u8s rs) 34)) := (HO.out.block G (Nat.ne_of_lt HGl.out)).trans ((Below.heap_alloc _ _ _ HGl.out).trans HG.out)
          replace HW : Hid (Below F w w5) := (HW.out.alloc (by have := HW.out.size; rw [HFe.out] at this; exact this) _).trans (HO.out.below (by have := HW.out.size; rw [HFe.out] at this; exact this))
          refine wp_region_quiet_lit (by kernel_rfl) (by kernel_rfl) ?_
          repeat (first
            | (refine wpQuiet_load34 rfl _ rfl G rfl rs HG.out hfl ?_)
            | (refine wpQuiet_load34 rfl _ rfl w3.heap.size rfl rs H5.out hfl ?_)
            | (refine wpQuiet_eql34 rfl _ _ rfl rs rfl rfl hfl ?_)
            | quiet_step (fail))
          refine wpQuiet_nil ?_
          intro _ hw'
          obtain ⟨nq, rfl⟩ := hw'
          go_wp2
          go_ret
          exact ⟨rfl, below_drewN (by rw [HFe.out]; exact HW.out) _⟩
  · cases r
    · go_wp2_with fail
      go_ret
      exact ⟨rfl, b0⟩
    · go_wp2_with fail
      all_goals first | (go_ret; exact ⟨rfl, b0⟩) | (exfalso; omega)
end Go.Proofs.Qxb6601477a

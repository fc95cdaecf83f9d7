import Derived.Test.Qxb6601477aOpen
namespace Go.Proofs.Qxb6601477a
open Go.ChangeShapes Go.WideShapes Go.ChangeAt Go.RowKit

theorem eq28 (xs : List Int) (hx : xs.length = 16) (w : World) : (Op.equalIn 10000 28 (.agg (u8s xs)) (.agg (u8s xs))).run Try.prog w = .ok true w := by
  refine equalIn_array_same w 9999 28 5 16 1 Try.underlying28 (by kernel_rfl) (u8s xs) (fun i hi => ⟨.int .u8 (at0 xs i), ?_, ?_⟩)
  · simp [part, isAgg, run_underlying Try.underlying5, u8s_get xs i (by omega)]
  · rw [run_equalIn_int w 9998 5 .u8 .u8 _ _ Try.underlying5]; simp
theorem guard28 : Try.prog.eqGuardType Try.prog.depth 28 = false := by kernel_rfl

structure Env (B : Nat) (a b c z t : List Int) (w : World) : Prop where
  h0 : w.heap[B]? = some (.cells (u8s a) 28)
  h1 : w.heap[B + 1]? = some (.cells (u8s b) 28)
  h2 : w.heap[B + 1 + 1]? = some (.cells (u8s c) 28)
  h3 : w.heap[B + 1 + 1 + 1]? = some (.cells (u8s z) 28)
  h4 : w.heap[B + 1 + 1 + 1 + 1]? = some (.cells (u8s t) 28)
  sz : B + 1 + 1 + 1 + 1 < w.heap.size
theorem Env.below {B : Nat} {a b c z t : List Int} {W w' : World} (h : Env B a b c z t W) (hb : Below W.heap.size W w') : Env B a b c z t w' := by
  have s := h.sz
  have s' := hb.size
  exact ⟨by rw [hb.block _ (by omega)]; exact h.h0, by rw [hb.block _ (by omega)]; exact h.h1, by rw [hb.block _ (by omega)]; exact h.h2, by rw [hb.block _ (by omega)]; exact h.h3, by rw [hb.block _ (by omega)]; exact h.h4, by omega⟩
theorem u8s_set (t : List Int) (k : Nat) (v : Int) : (u8s t).setIfInBounds k (.int .u8 v) = u8s (t.set k v) := by
  simp [u8s]
theorem Env.store {B : Nat} {a b c z t : List Int} {W : World} (h : Env B a b c z t W) (k : Nat) (v : Int) : Env B a b c z (t.set k v) (W.setCell ⟨B + 1 + 1 + 1 + 1, k, none⟩ (.int .u8 v)) :=
  ⟨by rw [heap_setCell_other _ _ _ _ (by simp; omega)]; exact h.h0, by rw [heap_setCell_other _ _ _ _ (by simp)]; exact h.h1, by rw [heap_setCell_other _ _ _ _ (by simp)]; exact h.h2, by rw [heap_setCell_other _ _ _ _ (by simp)]; exact h.h3,
   by rw [heap_setCell_same _ _ _ _ _ _ h.h4, u8s_set], by have := h.sz; simpa [World.setCell] using this⟩
def zero16 : List Int := List.replicate 16 0
theorem heap_alloc_at (w : World) (o : Obj) (i : Nat) (h : i = w.heap.size) : (w.alloc o).heap[i]? = some o := by subst h; exact heap_alloc_new w o
theorem env_start (a b c : List Int) (w : World) : Env w.heap.size a b c zero16 zero16 (((((w.alloc (.cells (u8s a) 28)).alloc (.cells (u8s b) 28)).alloc (.cells (u8s c) 28)).alloc (.cells (u8s zero16) 28)).alloc (.cells (u8s zero16) 28)) := by
  have e (w : World) (o : Obj) : (w.alloc o).heap.size = w.heap.size + 1 := by simp
  constructor
  · rw [Below.heap_alloc _ _ _ (by rw [e, e, e, e]; omega), Below.heap_alloc _ _ _ (by rw [e, e, e]; omega), Below.heap_alloc _ _ _ (by rw [e, e]; omega), Below.heap_alloc _ _ _ (by rw [e]; omega)]; exact heap_alloc_at _ _ _ rfl
  · rw [Below.heap_alloc _ _ _ (by rw [e, e, e, e]; omega), Below.heap_alloc _ _ _ (by rw [e, e, e]; omega), Below.heap_alloc _ _ _ (by rw [e, e]; omega)]; exact heap_alloc_at _ _ _ (by rw [e])
  · rw [Below.heap_alloc _ _ _ (by rw [e, e, e, e]; omega), Below.heap_alloc _ _ _ (by rw [e, e, e]; omega)]; exact heap_alloc_at _ _ _ (by rw [e, e])
  · rw [Below.heap_alloc _ _ _ (by rw [e, e, e, e]; omega)]; exact heap_alloc_at _ _ _ (by rw [e, e, e])
  · exact heap_alloc_at _ _ _ (by rw [e, e, e, e])
  · rw [e, e, e, e, e]; omega
def z16 : Array Value := #[.int .u8 0, .int .u8 0, .int .u8 0, .int .u8 0, .int .u8 0, .int .u8 0, .int .u8 0, .int .u8 0, .int .u8 0, .int .u8 0, .int .u8 0, .int .u8 0, .int .u8 0, .int .u8 0, .int .u8 0, .int .u8 0]
theorem z16_eq : u8s zero16 = z16 := rfl
theorem below_start (a b c : List Int) (w : World) : Below w.heap.size w (((((w.alloc (.cells (u8s a) 28)).alloc (.cells (u8s b) 28)).alloc (.cells (u8s c) 28)).alloc (.cells (u8s zero16) 28)).alloc (.cells (u8s zero16) 28)) :=
  (((((Below.refl _ _).alloc (Nat.le_refl _) _).alloc (by simp) _).alloc (by simp; omega) _).alloc (by simp; omega) _).alloc (by simp; omega) _
theorem top_step {t : List Int} {k : Nat} (h : ∀ j, j < k → at0 t j = 255) (hk : k < t.length) : Hid (∀ j, j < k + 1 → at0 (t.set k 255) j = 255) := by
  intro j hj
  unfold at0 at h ⊢
  simp only [List.getD_eq_getElem?_getD] at h ⊢
  by_cases e : j = k
  · subst e; simp [hk]
  · rw [List.getElem?_set_ne (fun e' => e e'.symm)]; exact h j (by omega)
theorem geB_iff (xs ys : List Int) : ∀ n, geB xs ys n = true ↔ ∀ j, j < n → at0 ys j ≤ at0 xs j
  | 0 => by simp [geB]
  | n + 1 => by
    rw [geB, Bool.and_eq_true, geB_iff xs ys n, decide_eq_true_eq]
    constructor
    · rintro ⟨h, h'⟩ j hj
      by_cases e : j = n
      · subst e; exact h'
      · exact h j (by omega)
    · exact fun h => ⟨fun j hj => h j (by omega), h n (by omega)⟩
theorem at0_zero16 (j : Nat) : at0 zero16 j = 0 := by
  unfold at0 zero16
  simp only [List.getD_eq_getElem?_getD, List.getElem?_replicate]
  split <;> rfl
theorem geB_anti {a b : List Int} (ha : a.length = 16) (hb : b.length = 16) (h1 : geB a b 16 = true) (h2 : geB b a 16 = true) : a = b := by
  rw [geB_iff] at h1 h2
  refine List.ext_getElem (by omega) (fun j hj hj' => ?_)
  have e1 : at0 a j = a[j] := by simp [at0, hj]
  have e2 : at0 b j = b[j] := by simp [at0, hj']
  have := h1 j (by omega)
  have := h2 j (by omega)
  omega
set_option maxHeartbeats 1000000 in
theorem law6 (a b c : List Int) (w : World) (ha : a.length = 16) (hb : b.length = 16) (hc : c.length = 16) (wa : Bytes a) :
    Calls Try.prog 6 #[.agg (u8s a), .agg (u8s b), .agg (u8s c)] w fun e w' => e = .returned (.bool true) ∧ Below w.heap.size w w' := by
  have E := env_start a b c w
  have hw0 := below_start a b c w
  rw [z16_eq] at E hw0
  unfold z16 at E hw0
  have hz : zero16.length = 16 := rfl
  go_enter Try.func6, Try.ntmps6
  go_wp2_with fail
  generalize ((((w.alloc (Obj.cells (u8s a) 28)).alloc (Obj.cells (u8s b) 28)).alloc (Obj.cells (u8s c) 28)).alloc _).alloc _ = W at *
  go_loopw [9] (fun i wr => ∃ (k : Nat) (t : List Int), k ≤ 16 ∧ i = .int .i64 k ∧ t.length = 16 ∧ Hid (∀ j, j < k → at0 t j = 255) ∧ Env w.heap.size a b c zero16 t wr ∧ Below w.heap.size w wr) (fun i _ => 16 - (intOf i).toNat)
  case atStart => exact ⟨0, zero16, Nat.zero_le _, rfl, rfl, (fun j hj => absurd hj (by omega)), E, hw0⟩
  case round =>
    obtain ⟨k, t, hk, rfl, htl, HT, hE, hw1⟩ := hrel
    clear E hw0
    by_cases hlt : k < 16
    · have c1 := cell_of_row wr _ k _ _ _ hE.h4
      rw [u8s_get t k (by omega)] at c1
      have c2 := frozen_of_row wr _ k _ _ hE.h4
      have hkI : (k : Int) < 16 := by omega
      have hk0 : (0 : Int) ≤ (k : Int) := by omega
      go_wp2
      go_roundw
      case rel => exact ⟨k + 1, t.set k 255, by omega, by go_num, by simpa using htl, top_step HT.out (by omega), hE.store k 255, hw1.setCell (by simp; omega) _⟩
      case measure => simp [intOf]; omega
    · obtain rfl : k = 16 := by omega
      have g1 : geB a a 16 = true := (geB_iff _ _ _).2 (fun _ _ => Int.le_refl _)
      have g2 : geB a zero16 16 = true := (geB_iff _ _ _).2 (fun j _ => by rw [at0_zero16]; exact (wa j).1)
      have g3 : geB t a 16 = true := (geB_iff _ _ _).2 (fun j hj => by rw [HT.out j hj]; exact (wa j).2)
      have W0 : Hid (Bytes a) := wa
      clear hk wa
      cases g4 : geB a b 16
      · skip
        go_wp2_with (first | (go_at_call 17; refine (zzreaches_any _ _ _ (by assumption) (by assumption)).mono ?_; rintro e w' ⟨rfl, hbw⟩; replace hw1 := hw1.trans (hbw.mono (by have := hE.sz; omega)); replace hE := hE.below hbw; clear hbw) | refine wpList_load28 _ rfl rfl _ rfl _ _ ha hE.h0 ?_ | refine wpList_load28 _ rfl rfl _ rfl _ _ hb hE.h1 ?_ | refine wpList_load28 _ rfl rfl _ rfl _ _ hc hE.h2 ?_ | refine wpList_load28 _ rfl rfl _ rfl _ _ hz hE.h3 ?_ | refine wpList_load28 _ rfl rfl _ rfl _ _ htl hE.h4 ?_)
        go_ret
        exact ⟨rfl, hw1⟩
      · cases g5 : geB b a 16
        · cases g6 : geB b c 16
          · skip
            go_wp2_with (first | (go_at_call 17; refine (zzreaches_any _ _ _ (by assumption) (by assumption)).mono ?_; rintro e w' ⟨rfl, hbw⟩; replace hw1 := hw1.trans (hbw.mono (by have := hE.sz; omega)); replace hE := hE.below hbw; clear hbw) | refine wpList_load28 _ rfl rfl _ rfl _ _ ha hE.h0 ?_ | refine wpList_load28 _ rfl rfl _ rfl _ _ hb hE.h1 ?_ | refine wpList_load28 _ rfl rfl _ rfl _ _ hc hE.h2 ?_ | refine wpList_load28 _ rfl rfl _ rfl _ _ hz hE.h3 ?_ | refine wpList_load28 _ rfl rfl _ rfl _ _ htl hE.h4 ?_)
            go_ret
            exact ⟨rfl, hw1⟩
          · have g7 : geB a c 16 = true := (geB_iff _ _ _).2 (fun j hj => Int.le_trans ((geB_iff _ _ _).1 g6 j hj) ((geB_iff _ _ _).1 g4 j hj))
            go_wp2_with (first | (go_at_call 17; refine (zzreaches_any _ _ _ (by assumption) (by assumption)).mono ?_; rintro e w' ⟨rfl, hbw⟩; replace hw1 := hw1.trans (hbw.mono (by have := hE.sz; omega)); replace hE := hE.below hbw; clear hbw) | refine wpList_load28 _ rfl rfl _ rfl _ _ ha hE.h0 ?_ | refine wpList_load28 _ rfl rfl _ rfl _ _ hb hE.h1 ?_ | refine wpList_load28 _ rfl rfl _ rfl _ _ hc hE.h2 ?_ | refine wpList_load28 _ rfl rfl _ rfl _ _ hz hE.h3 ?_ | refine wpList_load28 _ rfl rfl _ rfl _ _ htl hE.h4 ?_)
            go_ret
            exact ⟨rfl, hw1⟩
        · obtain rfl := geB_anti ha hb g4 g5
          have q1 := eq28 a ha
          have q2 := guard28
          clear g4 g5 hb
          have hb := ha
          cases g6 : geB a c 16
          · skip
            go_wp2_with (first | (go_at_call 17; refine (zzreaches_any _ _ _ (by assumption) (by assumption)).mono ?_; rintro e w' ⟨rfl, hbw⟩; replace hw1 := hw1.trans (hbw.mono (by have := hE.sz; omega)); replace hE := hE.below hbw; clear hbw) | refine wpList_load28 _ rfl rfl _ rfl _ _ ha hE.h0 ?_ | refine wpList_load28 _ rfl rfl _ rfl _ _ hb hE.h1 ?_ | refine wpList_load28 _ rfl rfl _ rfl _ _ hc hE.h2 ?_ | refine wpList_load28 _ rfl rfl _ rfl _ _ hz hE.h3 ?_ | refine wpList_load28 _ rfl rfl _ rfl _ _ htl hE.h4 ?_)
            go_ret
            exact ⟨rfl, hw1⟩
          · skip
            go_wp2_with (first | (go_at_call 17; refine (zzreaches_any _ _ _ (by assumption) (by assumption)).mono ?_; rintro e w' ⟨rfl, hbw⟩; replace hw1 := hw1.trans (hbw.mono (by have := hE.sz; omega)); replace hE := hE.below hbw; clear hbw) | refine wpList_load28 _ rfl rfl _ rfl _ _ ha hE.h0 ?_ | refine wpList_load28 _ rfl rfl _ rfl _ _ hb hE.h1 ?_ | refine wpList_load28 _ rfl rfl _ rfl _ _ hc hE.h2 ?_ | refine wpList_load28 _ rfl rfl _ rfl _ _ hz hE.h3 ?_ | refine wpList_load28 _ rfl rfl _ rfl _ _ htl hE.h4 ?_)
            go_ret
            exact ⟨rfl, hw1⟩
end Go.Proofs.Qxb6601477a

import Derived.Test.Qxb6601477aOpen
import Derived.Deep.OwnRows
import Derived.WalkSpells
namespace Go.Proofs.Qxb6601477a
open Go.ChangeShapes Go.WideShapes Go.ChangeAt Go.RowKit

/-- a slice of bytes that came in: nil, empty, or a row of cells that hold xs -/
def Src (w : World) (p : Option Addr) (xs : List Int) : Prop :=
  (xs = []) ∨ ∃ b off, p = some ⟨b, off, none⟩ ∧ b < w.heap.size ∧ ∀ k, k < xs.length → w.cell? ⟨b, off + k, none⟩ = some (.int .u8 (at0 xs k))
/-- a slice of bytes of the call's own: nil, or a whole block that holds xs -/
def Own (w : World) (p : Option Addr) (xs : List Int) : Prop :=
  (p = none ∧ xs = []) ∨ ∃ g, p = some ⟨g, 0, none⟩ ∧ w.heap[g]? = some (.cells (u8s xs) 5)
theorem lt_of_heap {w : World} {g : Nat} {o : Obj} (h : w.heap[g]? = some o) : g < w.heap.size := (Array.getElem?_eq_some_iff.1 h).1
theorem Own.below {w w' : World} {p : Option Addr} {xs : List Int} (h : Own w p xs) (hb : Below w.heap.size w w') : Own w' p xs := by
  rcases h with h | ⟨g, h1, h2⟩
  · exact .inl h
  · exact .inr ⟨g, h1, by rw [hb.block g (lt_of_heap h2)]; exact h2⟩
theorem Own.src {w : World} {p : Option Addr} {xs : List Int} (h : Own w p xs) : Src w p xs := by
  rcases h with ⟨_, h⟩ | ⟨g, h1, h2⟩
  · exact .inl h
  · exact .inr ⟨g, 0, h1, lt_of_heap h2, fun k hk => by rw [Nat.zero_add, cell_of_row _ _ _ _ _ _ h2, u8s_get xs k hk]⟩
theorem Src.below {w w' : World} {p : Option Addr} {xs : List Int} (h : Src w p xs) (hb : Below w.heap.size w w') : Src w' p xs := by
  rcases h with h | ⟨b, off, h1, h2, h3⟩
  · exact .inl h
  · exact .inr ⟨b, off, h1, Nat.lt_of_lt_of_le h2 hb.size, fun k hk => by rw [hb.cell (p := ⟨b, off + k, none⟩) h2]; exact h3 k hk⟩
theorem made_u8s (n : Nat) : madeCells #[Value.int .u8 0] n = u8s (List.replicate n 0) := by
  apply Array.toList_inj.1
  rw [toList_madeCells_one]
  simp [u8s]
theorem info5 : (Try.prog.info? 5).map (fun i => (i.zero, i.size, i.bytes)) = some (some (.int .u8 0), 1, 1) := by kernel_rfl
theorem u8s_set (t : List Int) (k : Nat) (v : Int) : (u8s t).setIfInBounds k (.int .u8 v) = u8s (t.set k v) := by
  simp [u8s]
theorem at0_set (t : List Int) (k j : Nat) (v : Int) (hk : k < t.length) : at0 (t.set k v) j = if j = k then v else at0 t j := by
  unfold at0
  simp only [List.getD_eq_getElem?_getD]
  by_cases e : j = k
  · subst e; simp [hk]
  · rw [List.getElem?_set_ne (fun e' => e e'.symm), if_neg e]
theorem ext_at0 {a b : List Int} (hl : a.length = b.length) (h : ∀ j, j < a.length → at0 a j = at0 b j) : a = b := by
  refine List.ext_getElem hl (fun j hj hj' => ?_)
  have e1 : at0 a j = a[j] := by simp [at0, hj]
  have e2 : at0 b j = b[j] := by simp [at0, hj']
  rw [← e1, ← e2]; exact h j hj
/-- one store of a loop that copies -/
theorem copy_step {ys xs : List Int} {k : Nat} (h : ∀ j, j < k → at0 ys j = at0 xs j) (hk : k < ys.length) : Hid (∀ j, j < k + 1 → at0 (ys.set k (at0 xs k)) j = at0 xs j) := by
  intro j hj
  rw [at0_set _ _ _ _ hk]
  by_cases e : j = k
  · rw [if_pos e, e]
  · rw [if_neg e]; exact h j (by omega)

theorem eql_nil (w : World) (a : Option Addr) (n c : Nat) : (binOp .eql 22 (.slice a n c) (.slice none 0 0)).run Try.prog w = .ok (.bool a.isNone) w :=
  Lib.run_eql_slice_nil w 22 5 a n c 0 0 Try.underlying22
set_option maxHeartbeats 400000 in
theorem clone_any (p : Option Addr) (cap : Nat) (xs : List Int) (w : World) (h : Src w p xs) (hn : p = none → xs = [] ∧ cap = 0) (hl : xs.length ≤ 1048576) :
    Calls Try.prog 12 #[.slice p xs.length cap] w fun e w' => ∃ q, e = .returned (.slice q xs.length xs.length) ∧ Own w' q xs ∧ Below w.heap.size w w' := by
  have hnil := eql_nil
  cases p with
  | none =>
    obtain ⟨rfl, rfl⟩ := hn rfl
    go_enter Try.func12, Try.ntmps12
    go_wp2
    go_ret
    exact ⟨none, rfl, .inl ⟨rfl, rfl⟩, Below.refl _ _⟩
  | some x =>
    clear hn
    have hmk := run_make_row' (P := Try.prog) 22 5 (.int .u8 0) 1 Try.underlying22 info5 rfl .i64 .i64 xs.length (by omega) (by omega)
    rw [made_u8s] at hmk
    have hs := h.below ((Below.refl w.heap.size w).alloc (Nat.le_refl _) (.cells (u8s (List.replicate xs.length 0)) 5))
    have hb := (Below.refl w.heap.size w).alloc (Nat.le_refl _) (.cells (u8s (List.replicate xs.length 0)) 5)
    have hg := heap_alloc_new w (.cells (u8s (List.replicate xs.length 0)) 5)
    go_enter Try.func12, Try.ntmps12
    go_wp2
    clear hmk hnil
    generalize w.alloc (.cells (u8s (List.replicate xs.length 0)) 5) = W at *
    go_loopw [4] (fun i wr => ∃ (k : Nat) (ys : List Int), k ≤ xs.length ∧ i = .int .i64 k ∧ ys.length = xs.length ∧ Hid (∀ j, j < k → at0 ys j = at0 xs j) ∧ wr.heap[w.heap.size]? = some (.cells (u8s ys) 5) ∧ Below w.heap.size w wr) (fun i _ => xs.length - (intOf i).toNat)
    case atStart => exact ⟨0, List.replicate xs.length 0, Nat.zero_le _, rfl, by simp, (fun j hj => absurd hj (by omega)), hg, hb⟩
    case round =>
      obtain ⟨k, ys, hk, rfl, hyl, HY, hh, hbw⟩ := hrel
      have HYL : Hid (ys.length = xs.length) := hyl
      clear hg hb hs hyl
      by_cases hlt : k < xs.length
      · rcases h with h | ⟨b, off, hx, hbl, hc⟩
        · subst h; simp at hlt
        · obtain rfl := Option.some.inj hx
          have c1 : wr.cell? ⟨b, off + k, none⟩ = some (.int .u8 (at0 xs k)) := by rw [hbw.cell (p := ⟨b, off + k, none⟩) hbl]; exact hc k hlt
          have c2 := cell_of_row wr _ k _ _ _ hh
          rw [u8s_get ys k (by rw [HYL.out]; exact hlt)] at c2
          have c3 := frozen_of_row wr _ k _ _ hh
          have hh2 := heap_setCell_same wr w.heap.size k _ _ (.int .u8 (at0 xs k)) hh
          rw [u8s_set] at hh2
          have HH : Hid ((wr.setCell ⟨w.heap.size, k, none⟩ (.int .u8 (at0 xs k))).heap[w.heap.size]? = some (.cells (u8s (ys.set k (at0 xs k))) 5)) := hh2
          have hkI : (k : Int) < (xs.length : Int) := by omega
          have hk0 : (0 : Int) ≤ (k : Int) := by omega
          clear hc hx hh hh2
          go_wp2
          go_roundw
          case rel => exact ⟨k + 1, ys.set k (at0 xs k), by omega, by go_num, by simpa using HYL.out, copy_step HY.out (by rw [HYL.out]; exact hlt), HH.out, hbw.setCell (Nat.le_refl _) _⟩
          case measure => simp [intOf]; omega
      · obtain rfl : k = xs.length := by omega
        obtain rfl := ext_at0 HYL.out (fun j hj => HY.out j (by rw [← HYL.out]; exact hj))
        go_wp2
        go_ret
        exact ⟨_, rfl, .inr ⟨_, rfl, hh⟩, hbw⟩
end Go.Proofs.Qxb6601477a

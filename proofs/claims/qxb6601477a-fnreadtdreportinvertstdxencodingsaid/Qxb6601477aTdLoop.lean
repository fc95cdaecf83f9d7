import Derived.Test.Qxb6601477aTd
import Derived.Test.Qxb6601477aTdCalls
namespace Go.Proofs.Qxb6601477a
open Go.ChangeShapes Go.WideShapes Go.ChangeAt Go.RowKit
/-- the bodies of a code's outermost loops, in the text's order -/
def loopBodies : Code → List Code
  | .loop c => [c]
  | .seq x y => loopBodies x ++ loopBodies y
  | .cond _ x y => loopBodies x ++ loopBodies y
  | .block _ c => loopBodies c
  | .scope c => loopBodies c
  | _ => []
/-- where field k begins -/
def foff (k : Nat) : Nat := [0, 16, 64, 112, 120, 128, 136, 184, 232, 280, 328, 376, 424, 472, 520, 584].getD k 584
def flen (k : Nat) : Nat := [16, 48, 48, 8, 8, 8, 48, 48, 48, 48, 48, 48, 48, 48, 64].getD k 0
theorem foff_step : ∀ k, k < 15 → foff (k + 1) = foff k + flen k := by decide
theorem foff_le : ∀ k, k < 15 → foff k + flen k ≤ 584 := by decide
theorem foff_le' : ∀ k, k < 16 → foff k ≤ 584 := by decide
def fieldsOf (G : Nat) : Array Value := #[.slice (some ⟨G, 0, none⟩) 16 16, .slice (some ⟨G, 16, none⟩) 48 48, .slice (some ⟨G, 64, none⟩) 48 48, .slice (some ⟨G, 112, none⟩) 8 8, .slice (some ⟨G, 120, none⟩) 8 8, .slice (some ⟨G, 128, none⟩) 8 8, .slice (some ⟨G, 136, none⟩) 48 48, .slice (some ⟨G, 184, none⟩) 48 48, .slice (some ⟨G, 232, none⟩) 48 48, .slice (some ⟨G, 280, none⟩) 48 48, .slice (some ⟨G, 328, none⟩) 48 48, .slice (some ⟨G, 376, none⟩) 48 48, .slice (some ⟨G, 424, none⟩) 48 48, .slice (some ⟨G, 472, none⟩) 48 48, .slice (some ⟨G, 520, none⟩) 64 64]
theorem fieldsOf_get (G : Nat) : ∀ k, k < 15 → (fieldsOf G)[k]? = some (.slice (some ⟨G, foff k, none⟩) (flen k) (flen k)) := by
  intro k hk
  match k, hk with
  | 0, _ => rfl
  | 1, _ => rfl
  | 2, _ => rfl
  | 3, _ => rfl
  | 4, _ => rfl
  | 5, _ => rfl
  | 6, _ => rfl
  | 7, _ => rfl
  | 8, _ => rfl
  | 9, _ => rfl
  | 10, _ => rfl
  | 11, _ => rfl
  | 12, _ => rfl
  | 13, _ => rfl
  | 14, _ => rfl
  | k + 15, h => omega
/-- the state of the report before field k -/
def Rep (xs ys : List Int) (k : Nat) : Prop := ys.length = 584 ∧ (∀ j, j < foff k → at0 ys j = at0 xs j) ∧ ∀ j, foff k ≤ j → at0 ys j = 0
theorem Rep.step {xs ys : List Int} {k : Nat} (h : Rep xs ys k) (hk : k < 15) : Rep xs (spl ys (foff k) ((xs.drop (foff k)).take (flen k))) (k + 1) := by
  obtain ⟨h1, h2, h3⟩ := h
  have hs := foff_step k hk
  have hle := foff_le k hk
  have htl : ((xs.drop (foff k)).take (flen k)).length ≤ flen k := by rw [List.length_take]; omega
  have hfit : foff k + ((xs.drop (foff k)).take (flen k)).length ≤ ys.length := by omega
  refine ⟨by rw [spl_len _ _ _ hfit]; exact h1, fun j hj => ?_, fun j hj => ?_⟩
  · rw [at0_spl _ _ _ hfit]
    by_cases e : foff k ≤ j ∧ j < foff k + ((xs.drop (foff k)).take (flen k)).length
    · rw [if_pos e]
      have e1 : j - foff k < flen k := by omega
      unfold at0
      simp only [List.getD_eq_getElem?_getD]
      rw [List.getElem?_take_of_lt e1, List.getElem?_drop]
      congr 2
      omega
    · rw [if_neg e]
      by_cases e1 : j < foff k
      · exact h2 j e1
      · rw [h3 j (by omega), at0_past]
        rw [List.length_take, List.length_drop] at e
        omega
  · rw [at0_spl _ _ _ hfit, if_neg (by omega)]
    exact h3 j (by omega)
theorem rep_zero (xs : List Int) : Rep xs zero584 0 := by
  refine ⟨zero584_len, fun j hj => absurd hj (by simp [foff]), fun j _ => ?_⟩
  unfold zero584 at0
  simp only [List.getD_eq_getElem?_getD, List.getElem?_replicate]
  split <;> rfl
/-- the slice behind field k -/
theorem drop_field (xs : List Int) (k : Nat) (hk : k < 15) : (xs.drop (foff k)).drop ((xs.drop (foff k)).take (flen k)).length = xs.drop (foff (k + 1)) := by
  have hs := foff_step k hk
  rw [List.drop_drop, hs, List.length_take, List.length_drop]
  by_cases e : flen k ≤ xs.length - foff k
  · rw [Nat.min_eq_left e]
  · rw [Nat.min_eq_right (by omega), List.drop_eq_nil_of_le (by omega), List.drop_eq_nil_of_le (by omega)]
theorem src_under {w w2 : World} {G : Nat} (hsz : w.heap.size ≤ G) (hb : Below G w w2) {p : Option Addr} {xs : List Int} (h : Src w p xs) : Src w2 p xs := by
  rcases h with h | ⟨b, o, h1, h2, h3⟩
  · exact .inl h
  · exact .inr ⟨b, o, h1, Nat.lt_of_lt_of_le h2 hb.size, fun j hj => by rw [hb.cell (p := ⟨b, o + j, none⟩) (by show b < G; omega)]; exact h3 j hj⟩
set_option maxHeartbeats 2000000 in
set_option maxRecDepth 100000 in
theorem td_loop (Q0 : Exit → Act → World → Prop) (G F : Nat) (p : Option Addr) (cap : Nat) (xs : List Int) (w W : World) (c1 c2 c3 c4 c6 c7 c8 c9 c10 c11 c12 c13 c14 c15 c16 c17 c18 c19 c20 c21 c22 c23 c24 c25 c26 c27 c28 c29 c30 c31 c32 c33 c34 c35 c36 c37 c38 c39 c40 c41 c42 c43 c44 c45 c46 c47 c48 c49 c50 c51 c52 c53 c54 c55 c56 c57 c58 c59 c60 c61 c62 c63 c64 c65 c66 c67 c68 c69 c70 c71 c84 u5 u75 u76 u77 u78 u79 u80 u81 u82 u83 : Value)
    (hsrc : Src w p xs) (hc : xs.length ≤ cap) (hsz : w.heap.size ≤ G) (hGF : F ≠ G) (hF : W.heap[F]? = some (.cells (fieldsOf G) 22)) (hG : W.heap[G]? = some (.cells (u8s zero584) 34)) (hb : Below G w W)
    (hexit : ∀ (u0 u74 u5 u75 u76 u77 u78 u79 u80 u81 u82 u83 : Value) (w' : World) (ys : List Int), w'.heap[G]? = some (.cells (u8s ys) 34) → Rep xs ys 15 → Below G w w' → Q0 (.exit 0) ⟨(u0 :: c1 :: c2 :: c3 :: c4 :: u5 :: c6 :: c7 :: c8 :: c9 :: c10 :: c11 :: c12 :: c13 :: c14 :: c15 :: c16 :: c17 :: c18 :: c19 :: c20 :: c21 :: c22 :: c23 :: c24 :: c25 :: c26 :: c27 :: c28 :: c29 :: c30 :: c31 :: c32 :: c33 :: c34 :: c35 :: c36 :: c37 :: c38 :: c39 :: c40 :: c41 :: c42 :: c43 :: c44 :: c45 :: c46 :: c47 :: c48 :: c49 :: c50 :: c51 :: c52 :: c53 :: c54 :: c55 :: c56 :: c57 :: c58 :: c59 :: c60 :: c61 :: c62 :: c63 :: c64 :: c65 :: c66 :: c67 :: c68 :: c69 :: c70 :: c71 :: .slice (some ⟨F, 0, none⟩) 15 15 :: .int .i64 15 :: u74 :: u75 :: u76 :: u77 :: u78 :: u79 :: u80 :: u81 :: u82 :: u83 :: c84 :: []).toArray, []⟩ w') :
    Code.wp Try.prog (Code.loop (((Try.f22.body.map loopBodies).getD []).headD .skip)) Q0 ⟨(.slice p xs.length cap :: c1 :: c2 :: c3 :: c4 :: u5 :: c6 :: c7 :: c8 :: c9 :: c10 :: c11 :: c12 :: c13 :: c14 :: c15 :: c16 :: c17 :: c18 :: c19 :: c20 :: c21 :: c22 :: c23 :: c24 :: c25 :: c26 :: c27 :: c28 :: c29 :: c30 :: c31 :: c32 :: c33 :: c34 :: c35 :: c36 :: c37 :: c38 :: c39 :: c40 :: c41 :: c42 :: c43 :: c44 :: c45 :: c46 :: c47 :: c48 :: c49 :: c50 :: c51 :: c52 :: c53 :: c54 :: c55 :: c56 :: c57 :: c58 :: c59 :: c60 :: c61 :: c62 :: c63 :: c64 :: c65 :: c66 :: c67 :: c68 :: c69 :: c70 :: c71 :: .slice (some ⟨F, 0, none⟩) 15 15 :: .int .i64 15 :: .int .i64 0 :: u75 :: u76 :: u77 :: u78 :: u79 :: u80 :: u81 :: u82 :: u83 :: c84 :: []).toArray, []⟩ W := by
  conv => arg 2; arg 1; whnf
  have HX : Hid (∀ (u0 u74 u5 u75 u76 u77 u78 u79 u80 u81 u82 u83 : Value) (w' : World) (ys : List Int), w'.heap[G]? = some (.cells (u8s ys) 34) → Rep xs ys 15 → Below G w w' → Q0 (.exit 0) ⟨(u0 :: c1 :: c2 :: c3 :: c4 :: u5 :: c6 :: c7 :: c8 :: c9 :: c10 :: c11 :: c12 :: c13 :: c14 :: c15 :: c16 :: c17 :: c18 :: c19 :: c20 :: c21 :: c22 :: c23 :: c24 :: c25 :: c26 :: c27 :: c28 :: c29 :: c30 :: c31 :: c32 :: c33 :: c34 :: c35 :: c36 :: c37 :: c38 :: c39 :: c40 :: c41 :: c42 :: c43 :: c44 :: c45 :: c46 :: c47 :: c48 :: c49 :: c50 :: c51 :: c52 :: c53 :: c54 :: c55 :: c56 :: c57 :: c58 :: c59 :: c60 :: c61 :: c62 :: c63 :: c64 :: c65 :: c66 :: c67 :: c68 :: c69 :: c70 :: c71 :: .slice (some ⟨F, 0, none⟩) 15 15 :: .int .i64 15 :: u74 :: u75 :: u76 :: u77 :: u78 :: u79 :: u80 :: u81 :: u82 :: u83 :: c84 :: []).toArray, []⟩ w') := hexit
  clear hexit
  go_loopw [0, 74] (fun bv i wr => ∃ (k : Nat) (p' : Option Addr) (c' n' : Nat) (ys : List Int), k ≤ 15 ∧ i = .int .i64 k ∧ bv = .slice p' n' c' ∧ Hid ((xs.drop (foff k)).length = n') ∧ n' ≤ c' ∧ Src w p' (xs.drop (foff k)) ∧ Rep xs ys k ∧ wr.heap[G]? = some (.cells (u8s ys) 34) ∧ wr.heap[F]? = some (.cells (fieldsOf G) 22) ∧ Below G w wr) (fun _ i _ => 15 - (intOf i).toNat)
  case atStart => exact ⟨0, p, cap, xs.length, zero584, Nat.zero_le _, rfl, rfl, rfl, hc, hsrc, rep_zero xs, hG, hF, hb⟩
  case round =>
    obtain ⟨k, p', c', n', ys, hk, rfl, rfl, HN, hnc, hs, hrep, hG', hF', hb'⟩ := hrel
    clear hsrc hG hF hb
    by_cases hlt : k < 15
    · have c1 := cell_of_row wr F k _ _ _ hF'
      rw [fieldsOf_get G k hlt] at c1
      have hk0 : (0 : Int) ≤ (k : Int) := by omega
      have hkI : (k : Int) < 15 := by omega
      have hs' : Src wr p' (xs.drop (foff k)) := by
        rcases hs with hs | ⟨b, o, h1, h2, h3⟩
        · exact .inl hs
        · exact .inr ⟨b, o, h1, Nat.lt_of_lt_of_le h2 hb'.size, fun j hj => by rw [hb'.cell (p := ⟨b, o + j, none⟩) (by show b < G; omega)]; exact h3 j hj⟩
      obtain ⟨m, HM⟩ : ∃ m, Hid (((xs.drop (foff k)).take (flen k)).length = m) := ⟨_, rfl⟩
      have hm : m ≤ n' := by rw [← HM.out, ← HN.out, List.length_take]; omega
      have HD : Hid ((xs.drop (foff k)).drop m = xs.drop (foff (k + 1))) := by show _ = _; rw [← HM.out]; exact drop_field xs k hlt
      have hfit : foff k + flen k ≤ ys.length := by rw [hrep.1]; exact foff_le k hlt
      have HR : Hid (Rep xs (spl ys (foff k) ((xs.drop (foff k)).take (flen k))) (k + 1)) := hrep.step hlt
      have HSZ : Hid (w.heap.size ≤ G) := hsz
      have HGF : Hid (F ≠ G) := hGF
      have HB : Hid (Below G w wr) := hb'
      have HS : Hid (Src wr p' (xs.drop (foff k))) := hs'
      have HW : Hid (Src w p' (xs.drop (foff k))) := hs
      have HG : Hid (wr.heap[G]? = some (.cells (u8s ys) 34)) := hG'
      have HF : Hid (wr.heap[F]? = some (.cells (fieldsOf G) 22)) := hF'
      clear hrep hsz hGF hb' hs' hs hG' hF'
      go_wp2_with (first
        | (refine wpList_copy_at rfl _ _ rfl G (foff k) (flen k) (flen k) p' n' c' rfl rfl ys (xs.drop (foff k)) 34 HG.out HN.out HS.out hfit m HM.out ?_; intro w2 hG2 hO2 hB2; replace hG2 : Hid _ := hG2; replace hO2 : Hid _ := hO2; replace hB2 : Hid (Below G w w2) := HB.out.trans hB2)
        | (refine wpList_slice_from rfl _ _ rfl p' n' c' m rfl rfl (xs.drop (foff k)) HN.out hm hnc ?_; intro p2 hs3; replace hs3 : Hid _ := hs3))
      go_roundw
      case rel =>
        refine ⟨k + 1, p2, c' - m, n' - m, spl ys (foff k) ((xs.drop (foff k)).take (flen k)), by omega, by go_num, rfl, ?_, by omega, ?_, HR.out, hG2.out, (hO2.out F HGF.out).trans HF.out, hB2.out⟩
        · show _ = _
          rw [← HD.out, List.length_drop, HN.out]
        · rw [← HD.out]
          exact hs3.out w HW.out
      case measure => simp [intOf]; omega
    · obtain rfl : k = 15 := by omega
      go_wp2_with fail
      exact HX.out _ _ _ _ _ _ _ _ _ _ _ _ _ _ hG' hrep hb'
end Go.Proofs.Qxb6601477a

import Derived.Test.Qxb6601477aTd
import Derived.Test.Qxb6601477aTdCalls
import Derived.Deep.MidRow
namespace Go.Proofs.Qxb6601477a
open Go.ChangeShapes Go.WideShapes Go.ChangeAt Go.RowKit
/-- n numbers from place off on -/
def seg (fs : List Int) (off n : Nat) : List Int := (fs.drop off).take n
theorem seg_len {fs : List Int} {off n : Nat} (h : off + n ≤ fs.length) : (seg fs off n).length = n := by unfold seg; rw [List.length_take, List.length_drop]; omega
theorem at0_seg (fs : List Int) (off n j : Nat) (hj : j < n) : at0 (seg fs off n) j = at0 fs (off + j) := by
  unfold at0 seg
  simp only [List.getD_eq_getElem?_getD]
  rw [List.getElem?_take_of_lt hj, List.getElem?_drop]
/-- ys has N numbers, the first e as fs has them -/
def Pre (fs ys : List Int) (N e : Nat) : Prop := ys.length = N ∧ ∀ j, j < e → at0 ys j = at0 fs j
theorem Pre.step {fs ys : List Int} {N off n : Nat} (h : Pre fs ys N off) (hf : off + n ≤ fs.length) (hN : off + n ≤ N) : Pre fs (spl ys off (seg fs off n)) N (off + n) := by
  obtain ⟨h1, h2⟩ := h
  have hl := seg_len hf
  have hfit : off + (seg fs off n).length ≤ ys.length := by omega
  refine ⟨by rw [spl_len _ _ _ hfit]; exact h1, fun j hj => ?_⟩
  rw [at0_spl _ _ _ hfit]
  by_cases e : off ≤ j ∧ j < off + (seg fs off n).length
  · rw [if_pos e, at0_seg _ _ _ _ (by omega)]
    congr 1
    omega
  · rw [if_neg e]; exact h2 j (by omega)
theorem Pre.whole {fs ys : List Int} {N : Nat} (h : Pre fs ys N N) (hf : fs.length = N) : ys = fs :=
  ext_at0 (h.1.trans hf.symm) (fun j hj => h.2 j (by rw [h.1] at hj; exact hj))
theorem fold_list (off : Nat) : ∀ (l : List Int) (k : Nat) (ys : List Int), off + k + l.length ≤ ys.length →
    ((l.map (Value.int .u8)).zipIdx k).foldl (fun (cs : Array Value) (x : Value × Nat) => cs.setIfInBounds (off + x.2) x.1) (u8s ys) = u8s (spl ys (off + k) l)
  | [], k, ys, _ => by simp [spl]
  | x :: l, k, ys, h => by
    simp only [List.length_cons] at h
    rw [List.map_cons, List.zipIdx_cons, List.foldl_cons, u8s_set, fold_list off l (k + 1) _ (by rw [List.length_set]; omega)]
    congr 1
    refine ext_at0 ?_ (fun j _ => ?_)
    · rw [spl_len _ _ _ (by rw [List.length_set]; omega), spl_len _ _ _ (by simp only [List.length_cons]; omega), List.length_set]
    · rw [at0_spl _ _ _ (by rw [List.length_set]; omega), at0_spl _ _ _ (by simp only [List.length_cons]; omega), at0_set _ _ _ _ (by omega)]
      simp only [List.length_cons]
      by_cases e1 : j = off + k
      · rw [if_neg (by omega), if_pos e1, if_pos (by omega)]
        have : j - (off + k) = 0 := by omega
        rw [this]; rfl
      · rw [if_neg e1]
        by_cases e2 : off + (k + 1) ≤ j ∧ j < off + (k + 1) + l.length
        · rw [if_pos e2, if_pos (by omega)]
          have : j - (off + k) = (j - (off + (k + 1))) + 1 := by omega
          rw [this]
          rfl
        · rw [if_neg e2, if_neg (by omega)]
theorem fold_u8s (off : Nat) (zs ys : List Int) (h : off + zs.length ≤ ys.length) :
    (u8s zs).zipIdx.foldl (fun (cs : Array Value) (x : Value × Nat) => cs.setIfInBounds (off + x.2) x.1) (u8s ys) = u8s (spl ys off zs) := by
  rw [← Array.foldl_toList, Array.toList_zipIdx, u8s_toList]
  exact fold_list off zs 0 ys (by omega)
theorem fill_step {place : Nat → Option (Nat × Nat)} {i off : Nat} {zs ys : List Int} {rest : List (Nat × Value)} (n : Nat) (hz : zs.length = n) (hp : place i = some (off, n)) (h : off + n ≤ ys.length) :
    Instr.fill place (u8s ys) ((i, .agg (u8s zs)) :: rest) = Instr.fill place (u8s (spl ys off zs)) rest := by
  subst hz
  rw [Instr.fill, hp]
  have hc : (Value.agg (u8s zs)).cells = u8s zs := rfl
  simp only [hc, u8s_size]
  rw [if_neg (by simp; omega)]
  congr 1
  exact fold_u8s off zs ys h
def place34 : Nat → Option (Nat × Nat) := fun i => [(0, 16), (16, 48), (64, 48), (112, 8), (120, 8), (128, 8), (136, 48), (184, 48), (232, 48), (280, 48), (328, 192), (520, 64)].toArray[i]?
theorem built_is (parts : List (Nat × Value)) : Try.prog.built 34 parts = Instr.fill place34 (u8s zero584) parts := by kernel_rfl
theorem pre_zero (fs : List Int) : Pre fs zero584 584 0 := ⟨zero584_len, fun j hj => absurd hj (by omega)⟩
theorem places : place34 0 = some (0, 16) ∧ place34 1 = some (16, 48) ∧ place34 2 = some (64, 48) ∧ place34 3 = some (112, 8) ∧ place34 4 = some (120, 8) ∧ place34 5 = some (128, 8) ∧ place34 6 = some (136, 48) ∧ place34 7 = some (184, 48) ∧ place34 8 = some (232, 48) ∧ place34 9 = some (280, 48) ∧ place34 10 = some (328, 192) ∧ place34 11 = some (520, 64) := by decide
theorem step_seg {place : Nat → Option (Nat × Nat)} {i off n e : Nat} {fs ys : List Int} {rest : List (Nat × Value)} (hp : place i = some (off, n)) (hs : Pre fs ys 584 off) (hf : fs.length = 584) (h : off + n = e) (he : e ≤ 584)
    {r : Option (Array Value)} (k : ∀ zs, Pre fs zs 584 e → Instr.fill place (u8s zs) rest = r) : Instr.fill place (u8s ys) ((i, .agg (u8s (seg fs off n))) :: rest) = r := by
  subst h
  rw [fill_step n (seg_len (by omega)) hp (by rw [hs.1]; exact he)]
  exact k _ (hs.step (by omega) he)
theorem fill34 (fs z : List Int) (h : fs.length = 584) (s0 : Pre fs z 584 0) : Instr.fill place34 (u8s z) [(0, .agg (u8s (seg fs 0 16))), (1, .agg (u8s (seg fs 16 48))), (2, .agg (u8s (seg fs 64 48))), (3, .agg (u8s (seg fs 112 8))), (4, .agg (u8s (seg fs 120 8))), (5, .agg (u8s (seg fs 128 8))), (6, .agg (u8s (seg fs 136 48))), (7, .agg (u8s (seg fs 184 48))), (8, .agg (u8s (seg fs 232 48))), (9, .agg (u8s (seg fs 280 48))), (10, .agg (u8s (seg fs 328 192))), (11, .agg (u8s (seg fs 520 64)))] = some (u8s fs) := by
  obtain ⟨p0, p1, p2, p3, p4, p5, p6, p7, p8, p9, p10, p11⟩ := places
  refine step_seg (off := 0) (n := 16) (e := 16) p0 s0 h (by omega) (by omega) (fun z1 s1 => ?_)
  refine step_seg (off := 16) (n := 48) (e := 64) p1 s1 h (by omega) (by omega) (fun z2 s2 => ?_)
  refine step_seg (off := 64) (n := 48) (e := 112) p2 s2 h (by omega) (by omega) (fun z3 s3 => ?_)
  refine step_seg (off := 112) (n := 8) (e := 120) p3 s3 h (by omega) (by omega) (fun z4 s4 => ?_)
  refine step_seg (off := 120) (n := 8) (e := 128) p4 s4 h (by omega) (by omega) (fun z5 s5 => ?_)
  refine step_seg (off := 128) (n := 8) (e := 136) p5 s5 h (by omega) (by omega) (fun z6 s6 => ?_)
  refine step_seg (off := 136) (n := 48) (e := 184) p6 s6 h (by omega) (by omega) (fun z7 s7 => ?_)
  refine step_seg (off := 184) (n := 48) (e := 232) p7 s7 h (by omega) (by omega) (fun z8 s8 => ?_)
  refine step_seg (off := 232) (n := 48) (e := 280) p8 s8 h (by omega) (by omega) (fun z9 s9 => ?_)
  refine step_seg (off := 280) (n := 48) (e := 328) p9 s9 h (by omega) (by omega) (fun z10 s10 => ?_)
  refine step_seg (off := 328) (n := 192) (e := 520) p10 s10 h (by omega) (by omega) (fun z11 s11 => ?_)
  refine step_seg (off := 520) (n := 64) (e := 584) p11 s11 h (by omega) (by omega) (fun z12 s12 => ?_)
  rw [Instr.fill, s12.whole h]
theorem built34 (fs : List Int) (h : fs.length = 584) : Try.prog.built 34 [(0, .agg (u8s (seg fs 0 16))), (1, .agg (u8s (seg fs 16 48))), (2, .agg (u8s (seg fs 64 48))), (3, .agg (u8s (seg fs 112 8))), (4, .agg (u8s (seg fs 120 8))), (5, .agg (u8s (seg fs 128 8))), (6, .agg (u8s (seg fs 136 48))), (7, .agg (u8s (seg fs 184 48))), (8, .agg (u8s (seg fs 232 48))), (9, .agg (u8s (seg fs 280 48))), (10, .agg (u8s (seg fs 328 192))), (11, .agg (u8s (seg fs 520 64)))] = some (u8s fs) := by
  rw [built_is]
  exact fill34 fs zero584 h (pre_zero fs)
end Go.Proofs.Qxb6601477a

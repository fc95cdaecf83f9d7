import Derived.Test.Qxb6601477aBytes
import Derived.Laws.CopyOwn
namespace Go.Proofs.Qxb6601477a
open Go.ChangeShapes Go.WideShapes Go.ChangeAt Go.RowKit
/-- zs laid over ys from place off on -/
def spl (ys : List Int) (off : Nat) (zs : List Int) : List Int := ys.take off ++ (zs ++ ys.drop (off + zs.length))
theorem spl_len (ys : List Int) (off : Nat) (zs : List Int) (h : off + zs.length ≤ ys.length) : (spl ys off zs).length = ys.length := by simp [spl]; omega
theorem at0_spl (ys : List Int) (off : Nat) (zs : List Int) (h : off + zs.length ≤ ys.length) (j : Nat) : at0 (spl ys off zs) j = if off ≤ j ∧ j < off + zs.length then at0 zs (j - off) else at0 ys j := by
  unfold at0 spl
  simp only [List.getD_eq_getElem?_getD]
  by_cases h1 : j < off
  · rw [if_neg (by omega), List.getElem?_append_left (by simp; omega), List.getElem?_take_of_lt h1]
  · rw [List.getElem?_append_right (by simp; omega)]
    have hl : (ys.take off).length = off := by simp; omega
    rw [hl]
    by_cases h2 : j < off + zs.length
    · rw [if_pos (by omega), List.getElem?_append_left (by omega)]
    · rw [if_neg (by omega), List.getElem?_append_right (by omega), List.getElem?_drop]
      congr 2
      omega
theorem u8s_toList (xs : List Int) : (u8s xs).toList = xs.map (Value.int .u8) := by simp [u8s]
theorem below_setRow' {g : Nat} {w : World} (cs : Array Value) : Below g w (w.setRow g cs) :=
  below_setRow (Below.refl g w) (Nat.le_refl _) cs
theorem info5s : (Try.prog.info? 5).map (·.size) = some 1 := by kernel_rfl
theorem goInt_min (n : Nat) : goInt ((n : Nat) : Int) = .int .i64 (n : Int) := rfl
theorem wpList_copy_at {ops : Array Oper} {rest : List Oper} {o : Oper} {a : Act} {w : World} {Q : Exit → Act → World → Prop} (hgd : o.guard = none) (d s : Operand)
    (ho : o.op = .call { callee := .builtin .copy, args := #[d, s], argTypes := #[22, 22] })
    (g off dLen dCap : Nat) (sp : Option Addr) (sLen sCap : Nat) (hd : a.eval d = .slice (some ⟨g, off, none⟩) dLen dCap) (hs : a.eval s = .slice sp sLen sCap)
    (ys rs : List Int) (t : TypeId) (hg : w.heap[g]? = some (.cells (u8s ys) t)) (hr : rs.length = sLen) (hsrc : Src w sp rs) (hfit : off + dLen ≤ ys.length) (m : Nat) (hm : (rs.take dLen).length = m)
    (h : ∀ w', w'.heap[g]? = some (.cells (u8s (spl ys off (rs.take dLen))) t) → (∀ k, k ≠ g → w'.heap[k]? = w.heap[k]?) → Below g w w' →
      wpList Try.prog ops Q rest (a.put o.dst (.int .i64 (m : Int))) w') : wpList Try.prog ops Q (o :: rest) a w := by
  subst hm
  have hmin : (rs.take dLen).length = Nat.min sLen dLen := by rw [List.length_take, hr, Nat.min_comm]
  by_cases h0 : Nat.min sLen dLen = 0
  · have hnil : rs.take dLen = [] := List.eq_nil_of_length_eq_zero (by omega)
    refine wpList_copy_nothing hgd d s 22 22 ho 5 Try.underlying22 info5s _ sp dLen dCap sLen sCap hd hs h0 ?_
    have h' := h w (by rw [hnil]; simpa [spl] using hg) (fun _ _ => rfl) (Below.refl _ _)
    rw [hnil] at h'
    exact h'
  · have hpos : 0 < rs.length := by
      have : Nat.min sLen dLen ≤ sLen := Nat.min_le_left _ _
      omega
    rcases hsrc with hsrc | ⟨b, o', rfl, hb, hc⟩
    · subst hsrc; simp at hpos
    have hml : (rs.take dLen).length ≤ dLen := by rw [List.length_take]; omega
    have hmr : (rs.take dLen).length ≤ rs.length := by rw [List.length_take]; omega
    refine wpList_copy_own hgd d s 22 22 ho 5 Try.underlying22 info5s g off dLen dCap ⟨b, o', none⟩ sLen sCap hd hs (u8s ys) t hg ((rs.take dLen).map (Value.int .u8)) (by rw [List.length_map]; exact hmin) (fun j v hv => ?_) (by rw [List.length_map, u8s_size]; omega) (fun v hv => ?_) ?_
    · obtain ⟨x, hx, rfl⟩ := List.getElem?_map (f := Value.int .u8) (l := rs.take dLen) (i := j) ▸ hv |> Option.map_eq_some_iff.1
      have hj : j < (rs.take dLen).length := (List.getElem?_eq_some_iff.1 hx).1
      rw [Addr.add_mid, hc j (by omega)]
      rw [List.getElem?_take_of_lt (by omega)] at hx
      simp [at0, hx]
    · obtain ⟨x, _, rfl⟩ := List.mem_map.1 hv
      rfl
    · rw [List.length_map]
      refine h _ ?_ (fun k hk => setRow_other w g k _ hk) (below_setRow' _)
      rw [setRow_heap w g _ _ t _ hg]
      congr 2
      simp [u8s, spl]
theorem wpList_slice_from {ops : Array Oper} {rest : List Oper} {o : Oper} {a : Act} {w : World} {Q : Exit → Act → World → Prop} (hgd : o.guard = none) (x lo : Operand)
    (ho : o.op = .slice 22 x (some lo) none none) (p : Option Addr) (len cap n : Nat) (hx : a.eval x = .slice p len cap) (hlo : a.eval lo = .int .i64 (n : Int))
    (rs : List Int) (hr : rs.length = len) (hn : n ≤ len) (hc : len ≤ cap)
    (h : ∀ p', (∀ W : World, Src W p rs → Src W p' (rs.drop n)) → wpList Try.prog ops Q rest (a.put o.dst (.slice p' (len - n) (cap - n))) w) : wpList Try.prog ops Q (o :: rest) a w := by
  refine wpList_plain hgd fun K hK => ?_
  have hrun : (Instr.slice 22 (.slice p len cap) (some (.int .i64 (n : Int))) none none).run Try.prog w = .ok (.slice (if cap = n then p else p.map (·.add n)) (len - n) (cap - n)) w := by
    simp [Instr.slice, run_underlying Try.underlying22, Instr.sliceBounds, run_sliceBound, hn]
  have hs2 : ∀ W : World, Src W p rs → Src W (if cap = n then p else p.map (·.add n)) (rs.drop n) := by
    intro W hsrc
    by_cases e : cap = n
    · rw [if_pos e]; exact .inl (List.drop_eq_nil_of_le (by omega))
    · rw [if_neg e]
      rcases hsrc with hsrc | ⟨b, o', rfl, hb, hcl⟩
      · exact .inl (by rw [hsrc]; simp)
      · refine .inr ⟨b, o' + n, by simp [Addr.add_mid], hb, fun k hk => ?_⟩
        rw [List.length_drop] at hk
        rw [Nat.add_assoc, hcl (n + k) (by omega)]
        simp [at0]
  unfold Oper.wp execOp
  have hrun' : (Instr.sliceAt 22 (.slice p len cap) (some (.int .i64 (n : Int))) none none).run Try.prog w = _ := (run_sliceAt_slice (P := Try.prog) w 22 _ _ none none Try.underlying22).trans hrun
  simp [ho, hx, hlo, hrun', Oper.upon]
  exact hK _ _ (h _ hs2)
end Go.Proofs.Qxb6601477a

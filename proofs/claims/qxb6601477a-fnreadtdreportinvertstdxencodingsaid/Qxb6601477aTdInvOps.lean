import Derived.Test.Qxb6601477aTdInv
namespace Go.Proofs.Qxb6601477a
open Go.ChangeShapes Go.WideShapes Go.ChangeAt Go.RowKit
theorem info35 : (Try.prog.info? 35).map (·.size) = some 584 := by kernel_rfl
theorem infos : (Try.prog.info? 28).map (·.size) = some 16 ∧ (Try.prog.info? 29).map (·.size) = some 48 ∧ (Try.prog.info? 30).map (·.size) = some 8 ∧ (Try.prog.info? 31).map (·.size) = some 192 ∧ (Try.prog.info? 32).map (·.size) = some 64 :=
  ⟨by kernel_rfl, by kernel_rfl, by kernel_rfl, by kernel_rfl, by kernel_rfl⟩
/-- A field of the boxed argument, loaded whole. -/
theorem wpList_loadF {ops : Array Oper} {rest : List Oper} {o : Oper} {a : Act} {w : World} {Q : Exit → Act → World → Prop} (hgd : o.guard = none) (ty : TypeId) (x : Operand) (ho : o.op = .load ty x)
    (F off n : Nat) (hx : a.eval x = .pointer (some ⟨F, off, none⟩)) (fs : List Int) (T : TypeId) (d : TypeDesc) (hF : w.heap[F]? = some (.cells (u8s fs) T)) (hl : off + n ≤ fs.length)
    (hu : Try.prog.underlying ty = some d) (hd : d.isRow = true) (hi : (Try.prog.info? ty).map (·.size) = some n)
    (h : wpList Try.prog ops Q rest (a.put o.dst (.agg (u8s (seg fs off n)))) w) : wpList Try.prog ops Q (o :: rest) a w := by
  refine wpList_load_mid hgd ty x ho F off hx ((seg fs off n).map (Value.int .u8)) d (fun j v hv => ?_) hu hd (by rw [List.length_map, seg_len hl]; exact hi) h
  rw [List.getElem?_map] at hv
  obtain ⟨y, hy, rfl⟩ := Option.map_eq_some_iff.1 hv
  have hj : j < (seg fs off n).length := (List.getElem?_eq_some_iff.1 hy).1
  rw [seg_len hl] at hj
  rw [cell_of_row _ _ _ _ _ _ hF, u8s_get fs (off + j) (by omega), ← at0_seg fs off n j hj]
  simp [at0, hy]
theorem wpList_load35 {ops : Array Oper} {rest : List Oper} {o : Oper} {a : Act} {w : World} {Q : Exit → Act → World → Prop} (hgd : o.guard = none) (x : Operand) (ho : o.op = .load 35 x)
    (F : Nat) (hx : a.eval x = .pointer (some ⟨F, 0, none⟩)) (fs : List Int) (hF : w.heap[F]? = some (.cells (u8s fs) 35)) (hl : fs.length = 584)
    (h : wpList Try.prog ops Q rest (a.put o.dst (.agg (u8s fs))) w) : wpList Try.prog ops Q (o :: rest) a w :=
  wpList_load_row hgd 35 x ho F hx 35 (u8s fs) (0, 0) _ hF Try.underlying35 rfl (by rw [u8s_size, hl]; exact info35) h
theorem wpList_build34p {ops : Array Oper} {rest : List Oper} {o : Oper} {a : Act} {w : World} {Q : Exit → Act → World → Prop} (hgd : o.guard = none) (parts : Array (Nat × Operand)) (ho : o.op = .build 34 parts)
    (fs : List Int) (hl : fs.length = 584) (hp : (parts.map fun (i, x) => (i, a.eval x)).toList = [(0, .agg (u8s (seg fs 0 16))), (1, .agg (u8s (seg fs 16 48))), (2, .agg (u8s (seg fs 64 48))), (3, .agg (u8s (seg fs 112 8))), (4, .agg (u8s (seg fs 120 8))), (5, .agg (u8s (seg fs 128 8))), (6, .agg (u8s (seg fs 136 48))), (7, .agg (u8s (seg fs 184 48))), (8, .agg (u8s (seg fs 232 48))), (9, .agg (u8s (seg fs 280 48))), (10, .agg (u8s (seg fs 328 192))), (11, .agg (u8s (seg fs 520 64)))])
    (h : wpList Try.prog ops Q rest (a.put o.dst (.agg (u8s fs))) w) : wpList Try.prog ops Q (o :: rest) a w := by
  refine wpList_build hgd 34 parts ho (by rw [hp, built34 fs hl]; rfl) ?_
  rw [hp, built34 fs hl]
  exact h
theorem wpList_build34q {ops : Array Oper} {rest : List Oper} {o : Oper} {a : Act} {w : World} {Q : Exit → Act → World → Prop} (hgd : o.guard = none) (ho : o.op = .build 34 #[(0, .tmp 105), (1, .tmp 107), (2, .tmp 109), (3, .tmp 111), (4, .tmp 113), (5, .tmp 115), (6, .tmp 117), (7, .tmp 119), (8, .tmp 121), (9, .tmp 123), (10, .tmp 125), (11, .tmp 127)])
    (fs : List Int) (hl : fs.length = 584) (e0 : a.eval (.tmp 105) = .agg (u8s (seg fs 0 16))) (e1 : a.eval (.tmp 107) = .agg (u8s (seg fs 16 48))) (e2 : a.eval (.tmp 109) = .agg (u8s (seg fs 64 48))) (e3 : a.eval (.tmp 111) = .agg (u8s (seg fs 112 8))) (e4 : a.eval (.tmp 113) = .agg (u8s (seg fs 120 8))) (e5 : a.eval (.tmp 115) = .agg (u8s (seg fs 128 8))) (e6 : a.eval (.tmp 117) = .agg (u8s (seg fs 136 48))) (e7 : a.eval (.tmp 119) = .agg (u8s (seg fs 184 48))) (e8 : a.eval (.tmp 121) = .agg (u8s (seg fs 232 48))) (e9 : a.eval (.tmp 123) = .agg (u8s (seg fs 280 48))) (e10 : a.eval (.tmp 125) = .agg (u8s (seg fs 328 192))) (e11 : a.eval (.tmp 127) = .agg (u8s (seg fs 520 64)))
    (h : wpList Try.prog ops Q rest (a.put o.dst (.agg (u8s fs))) w) : wpList Try.prog ops Q (o :: rest) a w :=
  wpList_build34p hgd _ ho fs hl (by simp [e0, e1, e2, e3, e4, e5, e6, e7, e8, e9, e10, e11]) h
theorem alloc34 (w : World) : (Instr.alloc 34 true (.tuple #[])).run Try.prog w = .ok (.pointer (some ⟨w.heap.size, 0, none⟩)) (w.alloc (.cells (u8s zero584) 34)) := by kernel_rfl
theorem wpList_alloc34 {ops : Array Oper} {rest : List Oper} {o : Oper} {a : Act} {w : World} {Q : Exit → Act → World → Prop} (hgd : o.guard = none) (ho : o.op = .alloc 34)
    (h : wpList Try.prog ops Q rest (a.put o.dst (.pointer (some ⟨w.heap.size, 0, none⟩))) (w.alloc (.cells (u8s zero584) 34))) : wpList Try.prog ops Q (o :: rest) a w :=
  wpList_plain hgd fun K hK => by
    unfold Oper.wp execOp
    simp only [ho, Sem.run_bind, alloc34]
    exact hK _ _ h
theorem oneCell_u8s (fs : List Int) : (u8s fs).all (·.oneCell') = true := by
  rw [Array.all_eq_true_iff_forall_mem]
  intro v hv
  simp only [u8s, List.mem_toArray, List.mem_map] at hv
  obtain ⟨x, _, rfl⟩ := hv
  rfl
theorem wpList_store34 {ops : Array Oper} {rest : List Oper} {o : Oper} {a : Act} {w : World} {Q : Exit → Act → World → Prop} (hgd : o.guard = none) (x y : Operand) (ho : o.op = .store 34 x y)
    (g : Nat) (fs ys : List Int) (hx : a.eval x = .pointer (some ⟨g, 0, none⟩)) (hy : a.eval y = .agg (u8s fs)) (hg : w.heap[g]? = some (.cells (u8s ys) 34)) (hl : fs.length = 584) (hl' : ys.length = 584)
    (h : ∀ w', w'.heap[g]? = some (.cells (u8s fs) 34) → Only g w w' → wpList Try.prog ops Q rest (a.put o.dst undef) w') : wpList Try.prog ops Q (o :: rest) a w := by
  refine wpList_store_row hgd 34 x y ho g (u8s fs) hx hy 34 (u8s ys) hg (by rw [u8s_size, hl]; exact info34) (by rw [u8s_size, u8s_size, hl, hl']) (oneCell_u8s fs) ?_
  exact h _ (setRow_heap w g _ _ 34 _ hg) ⟨rfl, rfl, rfl, by simp, fun k hk => setRow_other w g k _ hk⟩
/-! ### Equality of a report with itself -/
theorem u8s_extract (fs : List Int) (off n : Nat) : (u8s fs).extract off (off + n) = u8s (seg fs off n) := by
  unfold u8s seg
  simp [List.extract_toArray]
theorem eq_bytes (fs : List Int) (d t n : Nat) (w : World) (ht : Try.prog.underlying t = some (.array n 5)) (hl : fs.length = n) : (Op.equalIn (d + 2) t (.agg (u8s fs)) (.agg (u8s fs))).run Try.prog w = .ok true w := by
  refine equalIn_array_same w (d + 1) t 5 n 1 ht (by kernel_rfl) (u8s fs) (fun i hi => ⟨.int .u8 (at0 fs i), ?_, ?_⟩)
  · simp [part, isAgg, run_underlying Try.underlying5, u8s_get fs i (by omega)]
  · rw [run_equalIn_int w d 5 .u8 .u8 _ _ Try.underlying5]; simp
theorem eq_rows (fs : List Int) (d : Nat) (w : World) (hl : fs.length = 192) : (Op.equalIn (d + 3) 31 (.agg (u8s fs)) (.agg (u8s fs))).run Try.prog w = .ok true w := by
  refine equalIn_array_same w (d + 2) 31 29 4 48 Try.underlying31 (by kernel_rfl) (u8s fs) (fun i hi => ⟨.agg (u8s (seg fs (i * 48) 48)), ?_, ?_⟩)
  · have ha : (isAgg 29).run Try.prog w = .ok true w := by kernel_rfl
    simp [part, Sem.run_bind, ha, u8s_extract fs (i * 48) 48]
  · exact eq_bytes _ d 29 48 w Try.underlying29 (seg_len (by omega))
theorem part_seg (fs : List Int) (t off n : Nat) (w : World) (ha : (isAgg t).run Try.prog w = .ok true w) (hs : (sizeOf t).run Try.prog w = .ok n w) : (part t (u8s fs) off).run Try.prog w = .ok (.agg (u8s (seg fs off n))) w := by
  simp [part, Sem.run_bind, ha, hs, u8s_extract fs off n]
theorem fields34 : (Try.prog.fieldsOf 34).toList.map (fun f => (f.name == "_", f.type, f.offset)) = [(false, 28, 0), (false, 29, 16), (false, 29, 64), (false, 30, 112), (false, 30, 120), (false, 30, 128), (false, 29, 136), (false, 29, 184), (false, 29, 232), (false, 29, 280), (false, 31, 328), (false, 32, 520)] := by kernel_rfl
theorem eqFields_same (fs : List Int) (d : Nat) (w : World) : ∀ (l : List Field), (∀ f ∈ l, ∃ v, (part f.type (u8s fs) f.offset).run Try.prog w = .ok v w ∧ (Op.equalIn d f.type v v).run Try.prog w = .ok true w) → (Op.eqFields d (u8s fs) (u8s fs) l).run Try.prog w = .ok true w
  | [], _ => by simp [Op.eqFields]
  | f :: l, h => by
    obtain ⟨v, h1, h2⟩ := h f (by simp)
    have ih := eqFields_same fs d w l (fun g hg => h g (by simp [hg]))
    rw [Op.eqFields]
    split
    · simp only [Sem.run_bind, h1, h2, Result.andThen_ok, Bool.not_true, Bool.false_eq_true, if_false]
      exact ih
    · exact ih
theorem eq34 (fs : List Int) (w : World) (hl : fs.length = 584) : (Op.equalIn 10000 34 (.agg (u8s fs)) (.agg (u8s fs))).run Try.prog w = .ok true w := by
  rw [run_equalIn_struct w 9999 34 _ _ (by kernel_rfl) (by kernel_rfl)]
  refine eqFields_same fs 9999 w _ (fun f hf => ?_)
  have hm : (f.name == "_", f.type, f.offset) ∈ (Try.prog.fieldsOf 34).toList.map (fun f => (f.name == "_", f.type, f.offset)) := List.mem_map.2 ⟨f, hf, rfl⟩
  rw [fields34] at hm
  have a28 : (isAgg 28).run Try.prog w = .ok true w := by kernel_rfl
  have a29 : (isAgg 29).run Try.prog w = .ok true w := by kernel_rfl
  have a30 : (isAgg 30).run Try.prog w = .ok true w := by kernel_rfl
  have a31 : (isAgg 31).run Try.prog w = .ok true w := by kernel_rfl
  have a32 : (isAgg 32).run Try.prog w = .ok true w := by kernel_rfl
  have z28 : (sizeOf 28).run Try.prog w = .ok 16 w := by kernel_rfl
  have z29 : (sizeOf 29).run Try.prog w = .ok 48 w := by kernel_rfl
  have z30 : (sizeOf 30).run Try.prog w = .ok 8 w := by kernel_rfl
  have z31 : (sizeOf 31).run Try.prog w = .ok 192 w := by kernel_rfl
  have z32 : (sizeOf 32).run Try.prog w = .ok 64 w := by kernel_rfl
  simp only [List.mem_cons, Prod.mk.injEq, List.not_mem_nil, or_false] at hm
  rcases hm with h | h | h | h | h | h | h | h | h | h | h | h <;> obtain ⟨_, e1, e2⟩ := h <;> rw [e1, e2]
  · exact ⟨_, part_seg fs 28 0 16 w a28 z28, eq_bytes _ 9997 28 16 w Try.underlying28 (seg_len (by omega))⟩
  · exact ⟨_, part_seg fs 29 16 48 w a29 z29, eq_bytes _ 9997 29 48 w Try.underlying29 (seg_len (by omega))⟩
  · exact ⟨_, part_seg fs 29 64 48 w a29 z29, eq_bytes _ 9997 29 48 w Try.underlying29 (seg_len (by omega))⟩
  · exact ⟨_, part_seg fs 30 112 8 w a30 z30, eq_bytes _ 9997 30 8 w Try.underlying30 (seg_len (by omega))⟩
  · exact ⟨_, part_seg fs 30 120 8 w a30 z30, eq_bytes _ 9997 30 8 w Try.underlying30 (seg_len (by omega))⟩
  · exact ⟨_, part_seg fs 30 128 8 w a30 z30, eq_bytes _ 9997 30 8 w Try.underlying30 (seg_len (by omega))⟩
  · exact ⟨_, part_seg fs 29 136 48 w a29 z29, eq_bytes _ 9997 29 48 w Try.underlying29 (seg_len (by omega))⟩
  · exact ⟨_, part_seg fs 29 184 48 w a29 z29, eq_bytes _ 9997 29 48 w Try.underlying29 (seg_len (by omega))⟩
  · exact ⟨_, part_seg fs 29 232 48 w a29 z29, eq_bytes _ 9997 29 48 w Try.underlying29 (seg_len (by omega))⟩
  · exact ⟨_, part_seg fs 29 280 48 w a29 z29, eq_bytes _ 9997 29 48 w Try.underlying29 (seg_len (by omega))⟩
  · exact ⟨_, part_seg fs 31 328 192 w a31 z31, eq_rows _ 9996 w (seg_len (by omega))⟩
  · exact ⟨_, part_seg fs 32 520 64 w a32 z32, eq_bytes _ 9997 32 64 w Try.underlying32 (seg_len (by omega))⟩
/-! ### The last statement: it draws its order and only reads -/
theorem wpQuiet_load34 {ops : Array Oper} {Q : Act → Prop} {a : Act} {o : Oper} {rest : List Oper} {w : World} (hgd : o.guard = none) (x : Operand) (ho : o.op = .load 34 x)
    (g : Nat) (hx : a.eval x = .pointer (some ⟨g, 0, none⟩)) (fs : List Int) (hg : w.heap[g]? = some (.cells (u8s fs) 34)) (hl : fs.length = 584)
    (h : wpQuiet Try.prog ops (fun w' => ∃ n, w' = w.drewN n) Q rest (a.put o.dst (.agg (u8s fs)))) : wpQuiet Try.prog ops (fun w' => ∃ n, w' = w.drewN n) Q (o :: rest) a := by
  refine wpQuiet_step (fun K hK => ?_)
  rw [if_pos (by simp [Region.wanted, hgd])]
  refine ⟨.agg (u8s fs), ?_, hK _ h⟩
  rintro w' ⟨n, rfl⟩
  have hr := run_loadVar_row (P := Try.prog) (w.drewN n) g 34 34 (u8s fs) (0, 0) _ hg Try.underlying34 rfl (by rw [u8s_size, hl]; exact info34)
  unfold Oper.quietAt execOp
  simp only [ho, hx, Instr.loadAt, Instr.sureAddr, Sem.run_bind, Sem.run_pure, Result.andThen_ok, hr]
  exact ⟨rfl, rfl⟩
theorem wpQuiet_eql34 {ops : Array Oper} {Q : Act → Prop} {a : Act} {o : Oper} {rest : List Oper} {w : World} (hgd : o.guard = none) (x y : Operand) (ho : o.op = .binOp .eql 34 x y 34)
    (fs : List Int) (hx : a.eval x = .agg (u8s fs)) (hy : a.eval y = .agg (u8s fs)) (hl : fs.length = 584)
    (h : wpQuiet Try.prog ops (fun w' => ∃ n, w' = w.drewN n) Q rest (a.put o.dst (.bool true))) : wpQuiet Try.prog ops (fun w' => ∃ n, w' = w.drewN n) Q (o :: rest) a := by
  refine wpQuiet_step (fun K hK => ?_)
  rw [if_pos (by simp [Region.wanted, hgd])]
  refine ⟨.bool true, ?_, hK _ h⟩
  rintro w' ⟨n, rfl⟩
  unfold Oper.quietAt execOp
  simp [ho, hx, hy, Sem.run_bind, run_eqGuard_agg, run_eql_struct, eq34 fs (w.drewN n) hl, Oper.quietUpon]
end Go.Proofs.Qxb6601477a

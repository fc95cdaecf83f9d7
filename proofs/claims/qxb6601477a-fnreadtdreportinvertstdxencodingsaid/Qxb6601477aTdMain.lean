import Derived.Test.Qxb6601477aTdLoop
import Derived.Deep.RegionHeld3
namespace Go.Proofs.Qxb6601477a
open Go.ChangeShapes Go.WideShapes Go.ChangeAt Go.RowKit
set_option maxHeartbeats 8000000 in
set_option maxRecDepth 100000 in
theorem readTD (p : Option Addr) (cap : Nat) (xs : List Int) (w : World) (h : Src w p xs) (hc : xs.length ≤ cap) :
    Calls Try.prog 22 #[.slice p xs.length cap] w fun e w' => ∃ ys, e = .returned (.pointer (some ⟨w.heap.size, 0, none⟩)) ∧ w'.heap[w.heap.size]? = some (.cells (u8s ys) 34) ∧ Rep xs ys 15 ∧ Below w.heap.size w w' := by
  go_enter Try.func22, Try.ntmps22
  go_wp2_with (refine wpList_build34 rfl rfl ?_)
  simp only [List.append_eq, List.cons_append, List.nil_append]
  go_region_held3 (fun _ => True) (go_keep) (fail)
  go_wp2_with fail
  refine td_loop _ w.heap.size (w.heap.size + 1) p cap xs w _ _ _ _ _ _ _ _ _ _ _ _ _ _ _ _ _ _ _ _ _ _ _ _ _ _ _ _ _ _ _ _ _ _ _ _ _ _ _ _ _ _ _ _ _ _ _ _ _ _ _ _ _ _ _ _ _ _ _ _ _ _ _ _ _ _ _ _ _ _ _ _ _ _ _ _ _ _ _ _ _ _ h hc (Nat.le_refl _) (by omega) ?_ ?_ ?_ ?_
  · exact heap_alloc2_new w _ _
  · exact heap_alloc2_old w _ _
  · exact (((Below.refl w.heap.size w).alloc (Nat.le_refl _) _).alloc (by simp) _).drew
  · intro u0 u74 u5 u75 u76 u77 u78 u79 u80 u81 u82 u83 w' ys h1 h2 h3
    go_wp2
    go_ret
    exact ⟨ys, rfl, h1, h2, h3⟩
end Go.Proofs.Qxb6601477a

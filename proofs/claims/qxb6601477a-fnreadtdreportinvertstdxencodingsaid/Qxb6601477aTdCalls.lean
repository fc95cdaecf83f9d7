import Derived.Test.Qxb6601477aTdOps
namespace Go.Proofs.Qxb6601477a
open Go.ChangeShapes Go.WideShapes Go.ChangeAt Go.RowKit
/-- only block G has turned -/
structure Only (G : Nat) (w w' : World) : Prop where
  os : w'.os = w.os
  tape : w'.tape = w.tape
  output : w'.output = w.output
  size : w'.heap.size = w.heap.size
  block : ∀ k, k ≠ G → w'.heap[k]? = w.heap[k]?
theorem Only.refl (G : Nat) (w : World) : Only G w w := ⟨rfl, rfl, rfl, rfl, fun _ _ => rfl⟩
theorem Only.setCell {G : Nat} {w0 w : World} (h : Only G w0 w) (k : Nat) (v : Value) : Only G w0 (w.setCell ⟨G, k, none⟩ v) :=
  ⟨h.os, h.tape, h.output, by rw [← h.size]; simp [World.setCell], fun j hj => by rw [heap_setCell_other _ _ _ _ hj]; exact h.block j hj⟩
theorem Only.below {G B : Nat} {w w' : World} (h : Only G w w') (hB : B ≤ G) : Below B w w' :=
  ⟨h.os, h.tape, h.output, by rw [h.size]; exact Nat.le_refl _, fun k hk => h.block k (by omega)⟩
theorem Only.cell {G : Nat} {w w' : World} (h : Only G w w') {p : Addr} (hp : p.block ≠ G) : w'.cell? p = w.cell? p := World.cell?_of_block (w := w) (h.block p.block hp)
theorem Only.trans {G : Nat} {a b c : World} (h : Only G a b) (k : Only G b c) : Only G a c :=
  ⟨k.os.trans h.os, k.tape.trans h.tape, k.output.trans h.output, k.size.trans h.size, fun i hi => (k.block i hi).trans (h.block i hi)⟩
theorem at0_past (xs : List Int) (k : Nat) (h : xs.length ≤ k) : at0 xs k = 0 := by simp [at0, List.getElem?_eq_none h]

set_option maxHeartbeats 400000 in
theorem byteAt_any (p : Option Addr) (cap : Nat) (xs : List Int) (k : Nat) (w : World) (h : Src w p xs) (hl : xs.length ≤ 2097152) (hk : k ≤ 2097152) :
    Calls Try.prog 23 #[.slice p xs.length cap, .int .i64 (k : Int)] w fun e w' => e = .returned (.int .u8 (at0 xs k)) ∧ w' = w := by
  have hk0 : (0 : Int) ≤ (k : Int) := by omega
  by_cases hlt : k < xs.length
  · rcases h with h | ⟨b, off, rfl, _, hc⟩
    · subst h; simp at hlt
    · have c := hc k hlt
      have hkI : (k : Int) < (xs.length : Int) := by omega
      clear hc
      go_enter Try.func23, Try.ntmps23
      go_wp2
      go_ret
      exact ⟨rfl, rfl⟩
  · have hkI : ¬ (k : Int) < (xs.length : Int) := by omega
    have H0 : Hid (at0 xs k = 0) := at0_past xs k (by omega)
    go_enter Try.func23, Try.ntmps23
    go_wp2
    go_ret
    exact ⟨by rw [H0.out]; rfl, rfl⟩
theorem byteAt_at (p : Option Addr) (cap : Nat) (xs : List Int) (k : Nat) (z : Int) (w : World) (h : Src w p xs) (hl : xs.length ≤ 2097152) (hk : k ≤ 2097152) (hz : z = (k : Int)) :
    Calls Try.prog 23 #[.slice p xs.length cap, .int .i64 z] w fun e w' => e = .returned (.int .u8 (at0 xs k)) ∧ w' = w := by
  subst hz
  exact byteAt_any p cap xs k w h hl hk
/-- only the count of draws has turned -/
def Drawn (w w' : World) : Prop := ∃ n, w' = w.drewN n
theorem Drawn.src {w w' : World} (hd : Drawn w w') {p : Option Addr} {xs : List Int} (h : Src w p xs) : Src w' p xs := by
  obtain ⟨n, rfl⟩ := hd
  exact h
theorem Drawn.more {w w' : World} (hd : Drawn w w') (m : Nat) : Drawn w (w'.drewN m) := by
  obtain ⟨n, rfl⟩ := hd
  exact ⟨n + m, World.drewN_drewN _ _ _⟩
theorem Src.drewN1 {w : World} {p : Option Addr} {xs : List Int} (h : Src w p xs) (n : Nat) : Src (w.drewN n) p xs := h
set_option maxHeartbeats 400000 in
theorem fieldIs_any (pf p : Option Addr) (cf cap : Nat) (fs xs : List Int) (off : Nat) (w : World) (hf : Src w pf fs) (h : Src w p xs) (hl : xs.length ≤ 2097152) (hfl : fs.length ≤ 1048576) (ho : off ≤ 1048576)
    (heq : ∀ j, j < fs.length → at0 fs j = at0 xs (off + j)) :
    Calls Try.prog 14 #[.slice pf fs.length cf, .slice p xs.length cap, .int .i64 (off : Int)] w fun e w' => e = .returned (.bool true) ∧ Drawn w w' := by
  go_enter Try.func14, Try.ntmps14
  go_wp2
  go_loopw [7] (fun i wr => ∃ k : Nat, k ≤ fs.length ∧ i = .int .i64 k ∧ Drawn w wr) (fun i _ => fs.length - (intOf i).toNat)
  case atStart => exact ⟨0, Nat.zero_le _, rfl, 0, rfl⟩
  case round =>
    obtain ⟨k, hk, rfl, hd⟩ := hrel
    by_cases hlt : k < fs.length
    · rcases hd.src hf with hf | ⟨b, o1, rfl, _, hc⟩
      · subst hf; simp at hlt
      have c := hc k hlt
      have h' := hd.src h
      have HE : Hid (at0 fs k = at0 xs (off + k)) := heq k hlt
      rw [HE.out] at c
      have hkI : (k : Int) < (fs.length : Int) := by omega
      have hk0 : (0 : Int) ≤ (k : Int) := by omega
      have hwr : IntKind.i64.wrap ((off : Int) + (k : Int)) = (off : Int) + (k : Int) := by rw [IntKind.wrap_i64]; omega
      clear hc heq hf h
      go_wp2
      go_quiet ((go_at_call 23; exact Calls.quiet_of_same (byteAt_at p cap xs (off + k) _ _ (h'.drewN1 _) hl (by omega) (by omega))))
      go_wp2
      go_roundw
      case rel => exact ⟨k + 1, by omega, by go_num, hd.more _⟩
      case measure => simp [intOf]; omega
    · go_wp2
      go_ret
      exact ⟨rfl, hd⟩
set_option maxHeartbeats 400000 in
theorem put_any (G : Nat) (ys fs : List Int) (off : Nat) (pf : Option Addr) (cf : Nat) (w : World) (hg : w.heap[G]? = some (.cells (u8s ys) 5)) (hf : Src w pf fs) (hne : ∀ b o, pf = some ⟨b, o, none⟩ → b ≠ G)
    (hfit : off + fs.length ≤ ys.length) (hl : ys.length ≤ 2097152) :
    Calls Try.prog 16 #[.slice (some ⟨G, 0, none⟩) ys.length ys.length, .int .i64 (off : Int), .slice pf fs.length cf] w fun e w' => e = .returned (.tuple #[]) ∧ w'.heap[G]? = some (.cells (u8s (spl ys off fs)) 5) ∧ Only G w w' := by
  go_enter Try.func16, Try.ntmps16
  go_wp2
  go_loopw [6] (fun i wr => ∃ (k : Nat) (zs : List Int), k ≤ fs.length ∧ i = .int .i64 k ∧ Hid (zs.length = ys.length) ∧ Hid (∀ j, at0 zs j = if off ≤ j ∧ j < off + k then at0 fs (j - off) else at0 ys j) ∧ wr.heap[G]? = some (.cells (u8s zs) 5) ∧ Only G w wr) (fun i _ => fs.length - (intOf i).toNat)
  case atStart => exact ⟨0, ys, Nat.zero_le _, rfl, rfl, (fun j => by rw [if_neg (by omega)]), hg, Only.refl _ _⟩
  case round =>
    obtain ⟨k, zs, hk, rfl, HL, HZ, hh, ho⟩ := hrel
    clear hg
    by_cases hlt : k < fs.length
    · rcases hf with hf | ⟨b, o1, rfl, _, hc⟩
      · subst hf; simp at hlt
      have c1 := (ho.cell (p := ⟨b, o1 + k, none⟩) (hne b o1 rfl)).trans (hc k hlt)
      have c2 := cell_of_row wr _ (off + k) _ _ _ hh
      rw [u8s_get zs (off + k) (by rw [HL.out]; omega)] at c2
      have c3 := frozen_of_row wr _ (off + k) _ _ hh
      have hh2 := heap_setCell_same wr G (off + k) _ _ (.int .u8 (at0 fs k)) hh
      rw [u8s_set] at hh2
      have HH : Hid ((wr.setCell ⟨G, off + k, none⟩ (.int .u8 (at0 fs k))).heap[G]? = some (.cells (u8s (zs.set (off + k) (at0 fs k))) 5)) := hh2
      have hkI : (k : Int) < (fs.length : Int) := by omega
      have hk0 : (0 : Int) ≤ (k : Int) := by omega
      have hok : (off : Int) + (k : Int) < (ys.length : Int) := by omega
      have hok0 : (0 : Int) ≤ (off : Int) + (k : Int) := by omega
      have htn : ((off : Int) + (k : Int)).toNat = off + k := by omega
      clear hc hh hh2 hne
      go_wp2
      go_roundw
      case rel =>
        refine ⟨k + 1, zs.set (off + k) (at0 fs k), by omega, by go_num, (by show _ = _; simpa using HL.out), ?_, HH.out, ho.setCell _ _⟩
        intro j
        rw [at0_set _ _ _ _ (by rw [HL.out]; omega), HZ.out j]
        by_cases e : j = off + k
        · rw [if_pos e, if_pos (by omega), show j - off = k by omega]
        · rw [if_neg e]
          by_cases e2 : off ≤ j ∧ j < off + k
          · rw [if_pos e2, if_pos (by omega)]
          · rw [if_neg e2, if_neg (by omega)]
      case measure => simp [intOf]; omega
    · obtain rfl : k = fs.length := by omega
      have e : zs = spl ys off fs := ext_at0 (by rw [spl_len _ _ _ hfit]; exact HL.out) (fun j _ => by rw [HZ.out j, at0_spl _ _ _ hfit])
      subst e
      go_wp2
      go_end0
      exact ⟨rfl, hh, ho⟩
end Go.Proofs.Qxb6601477a

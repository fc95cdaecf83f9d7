import Derived.Test.Qxb6601477aRows
import Derived.JoinedOf
/-!
  The closed facts on the program's head word ('initOrder'), reckoned from its signs once. The kernel's own reading of so long a string literal costs some 10 GB; by 'String.toList_ofList' and a law on 'wordsSigns' it costs nothing.
-/
namespace Go.Proofs.Qxb6601477a
theorem wordsSigns_word : ∀ (w r : List Char), (∀ c ∈ w, c ≠ ' ') → wordsSigns (w ++ ' ' :: r) = w :: wordsSigns r
  | [], _, _ => rfl
  | c :: w, r, h => by
    have hc : c ≠ ' ' := h c (by simp)
    have ih := wordsSigns_word w r (fun d hd => h d (by simp [hd]))
    rw [List.cons_append, wordsSigns, ih]
    exact hc
def sg (l : List Nat) : List Char := l.map Char.ofNat
theorem sg_no (l : List Nat) (h : (l.all fun n => Nat.blt 32 n && Nat.blt n 127) = true) : ∀ c ∈ sg l, c ≠ ' ' := by
  intro c hc e
  obtain ⟨n, hn, rfl⟩ := List.mem_map.1 hc
  have hb := List.all_eq_true.1 h n hn
  simp only [Bool.and_eq_true, Nat.blt_eq] at hb
  have hv : n.isValidChar := Or.inl (by omega)
  have h1 : (Char.ofNat n).toNat = n := by
    unfold Char.ofNat
    rw [dif_pos hv]
    rfl
  have h2 : (Char.ofNat n).toNat = (' ' : Char).toNat := by rw [e]
  have h3 : (' ' : Char).toNat = 32 := by decide
  omega
def word0 : List Nat := [104, 97, 114, 110, 101, 115, 115]
def word1 : List Nat := [101, 55, 50, 53, 54, 52, 99, 97, 99, 99, 102, 99, 97, 54, 97, 50, 102, 97, 56, 102, 50, 53, 49, 53, 100, 101, 50, 98, 101, 98, 52, 57, 57, 100, 101, 98, 102, 54, 49, 50,
  101, 52, 55, 57, 50, 51, 55, 53, 52, 53, 49, 49, 53, 53, 54, 48, 55, 52, 101, 101, 101, 101, 99, 97]
def word2 : List Nat := [99, 117, 116]
def wordsR : List Nat := [97, 116, 32, 101, 120, 97, 109, 112, 108, 101, 46, 99, 111, 109, 47, 101, 110, 99, 108, 97, 118, 101, 45, 97, 116, 116, 101, 115, 116, 47, 101, 110, 99, 108, 97, 118, 101, 45, 97, 116,
  116, 101, 115, 116, 47, 122, 122, 108, 97, 119, 115, 95, 114, 111, 111, 116, 95, 98, 49, 46, 70, 110, 82, 101, 97, 100, 84, 68, 82, 101, 112, 111, 114, 116, 77, 97, 116, 99, 104, 101,
  115, 84, 68, 88, 76, 97, 121, 111, 117, 116, 32, 101, 120, 97, 109, 112, 108, 101, 46, 99, 111, 109, 47, 101, 110, 99, 108, 97, 118, 101, 45, 97, 116, 116, 101, 115, 116, 47, 101, 110,
  99, 108, 97, 118, 101, 45, 97, 116, 116, 101, 115, 116, 47, 122, 122, 108, 97, 119, 115, 95, 114, 111, 111, 116, 95, 98, 49, 46, 70, 110, 82, 101, 97, 100, 84, 68, 82, 101, 112, 111,
  114, 116, 73, 110, 118, 101, 114, 116, 115, 84, 68, 88, 69, 110, 99, 111, 100, 105, 110, 103, 32, 101, 120, 97, 109, 112, 108, 101, 46, 99, 111, 109, 47, 101, 110, 99, 108, 97, 118, 101,
  45, 97, 116, 116, 101, 115, 116, 47, 101, 110, 99, 108, 97, 118, 101, 45, 97, 116, 116, 101, 115, 116, 47, 122, 122, 108, 97, 119, 115, 95, 114, 111, 111, 116, 95, 98, 49, 46, 70, 110,
  82, 101, 97, 99, 104, 101, 115, 73, 102, 102, 77, 101, 101, 116, 73, 115, 87, 97, 110, 116, 32, 101, 120, 97, 109, 112, 108, 101, 46, 99, 111, 109, 47, 101, 110, 99, 108, 97, 118, 101,
  45, 97, 116, 116, 101, 115, 116, 47, 101, 110, 99, 108, 97, 118, 101, 45, 97, 116, 116, 101, 115, 116, 47, 122, 122, 108, 97, 119, 115, 95, 114, 111, 111, 116, 95, 98, 49, 46, 70, 110,
  82, 101, 97, 99, 104, 101, 115, 73, 115, 80, 97, 114, 116, 105, 97, 108, 79, 114, 100, 101, 114, 32, 101, 120, 97, 109, 112, 108, 101, 46, 99, 111, 109, 47, 101, 110, 99, 108, 97, 118,
  101, 45, 97, 116, 116, 101, 115, 116, 47, 101, 110, 99, 108, 97, 118, 101, 45, 97, 116, 116, 101, 115, 116, 47, 122, 122, 108, 97, 119, 115, 95, 114, 111, 111, 116, 95, 98, 49, 46, 70,
  110, 82, 101, 97, 99, 104, 101, 115, 66, 111, 116, 104, 73, 102, 102, 82, 101, 97, 99, 104, 101, 115, 74, 111, 105, 110, 32, 101, 120, 97, 109, 112, 108, 101, 46, 99, 111, 109, 47, 101,
  110, 99, 108, 97, 118, 101, 45, 97, 116, 116, 101, 115, 116, 47, 101, 110, 99, 108, 97, 118, 101, 45, 97, 116, 116, 101, 115, 116, 47, 122, 122, 108, 97, 119, 115, 95, 114, 111, 111, 116,
  95, 98, 49, 46, 70, 110, 77, 97, 115, 107, 101, 100, 69, 113, 117, 97, 108, 77, 97, 116, 99, 104, 101, 115, 88, 111, 114, 65, 99, 99, 117, 109, 117, 108, 97, 116, 105, 111, 110, 32,
  101, 120, 97, 109, 112, 108, 101, 46, 99, 111, 109, 47, 101, 110, 99, 108, 97, 118, 101, 45, 97, 116, 116, 101, 115, 116, 47, 101, 110, 99, 108, 97, 118, 101, 45, 97, 116, 116, 101, 115,
  116, 47, 122, 122, 108, 97, 119, 115, 95, 114, 111, 111, 116, 95, 98, 49, 46, 70, 110, 77, 97, 115, 107, 101, 100, 69, 113, 117, 97, 108, 73, 115, 69, 113, 117, 105, 118, 97, 108, 101,
  110, 99, 101, 32, 101, 120, 97, 109, 112, 108, 101, 46, 99, 111, 109, 47, 101, 110, 99, 108, 97, 118, 101, 45, 97, 116, 116, 101, 115, 116, 47, 101, 110, 99, 108, 97, 118, 101, 45, 97,
  116, 116, 101, 115, 116, 47, 122, 122, 108, 97, 119, 115, 95, 114, 111, 111, 116, 95, 98, 49, 46, 70, 110, 77, 97, 115, 107, 101, 100, 69, 113, 117, 97, 108, 72, 111, 108, 100, 115, 85,
  110, 100, 101, 114, 78, 97, 114, 114, 111, 119, 101, 114, 77, 97, 115, 107]
theorem head_toList : Try.prog.initOrder.toList = sg word0 ++ ' ' :: (sg word1 ++ ' ' :: (sg word2 ++ ' ' :: sg wordsR)) := by
  have e : Try.prog.initOrder = String.ofList (sg word0 ++ ' ' :: (sg word1 ++ ' ' :: (sg word2 ++ ' ' :: sg wordsR))) := by kernel_rfl
  rw [e, String.toList_ofList]
theorem head_words : wordsSigns Try.prog.initOrder.toList = sg word0 :: sg word1 :: sg word2 :: wordsSigns (sg wordsR) := by
  rw [head_toList, wordsSigns_word _ _ (sg_no _ (by kernel_rfl)), wordsSigns_word _ _ (sg_no _ (by kernel_rfl)), wordsSigns_word _ _ (sg_no _ (by kernel_rfl))]
theorem behind_words : behindMainWord (wordsSigns Try.prog.initOrder.toList) = sg word2 :: wordsSigns (sg wordsR) := by
  rw [head_words]
  generalize wordsSigns (sg wordsR) = l
  kernel_rfl
theorem make_of (P : Program) (c : List Char) (rest : List (List Char)) (h : behindMainWord (wordsSigns P.initOrder.toList) = c :: rest) (h1 : (c == "gc".toList || c == "spec".toList) = false) (h2 : (c == "cut".toList) = true) : P.make = some .cut := by
  unfold Program.make
  rw [h]
  simp only [h1, h2, Bool.true_or, if_true]
  rfl
theorem make_is : Try.prog.make = some .cut := make_of Try.prog _ _ behind_words (by kernel_rfl) (by kernel_rfl)
theorem lifts_of (P : Program) (c : List Char) (rest : List (List Char)) (h : behindMainWord (wordsSigns P.initOrder.toList) = c :: rest) (h1 : (c == "carried".toList) = false) (h2 : stripLifts liftWords (c :: rest) = ([], c :: rest)) : P.liftsFinal = false := by
  unfold Program.liftsFinal Program.headLifts
  rw [h]
  simp only [h2, List.head?_cons]
  have h3 : (some c == some "carried".toList) = false := by simpa using h1
  rw [h3]
  split <;> rfl
theorem strip_is (l : List (List Char)) : stripLifts liftWords (sg word2 :: l) = ([], sg word2 :: l) := by kernel_rfl
theorem liftsFinal : Try.prog.liftsFinal = false := lifts_of Try.prog _ _ behind_words (by kernel_rfl) (strip_is _)
theorem enter_of (P : Program) (c : List Char) (rest : List (List Char)) (h : behindMainWord (wordsSigns P.initOrder.toList) = c :: rest) (h2 : stripLifts liftWords (c :: rest) = ([], c :: rest)) (h3 : (some c == some "cut".toList) = true)
    (h4 : (!P.laysLater) = true) (h5 : (!P.bearsReflect) = true) (h6 : P.doorFits [] = true) : P.mayEnter = true := by
  unfold Program.mayEnter
  rw [h]
  simp only [h2, h3, h4, h5, h6, List.head?_cons, Bool.or_true, Bool.and_true, Bool.true_and]
  simp
theorem mayEnter : Try.prog.mayEnter = true := enter_of Try.prog _ _ behind_words (strip_is _) (by kernel_rfl) (by kernel_rfl) (by kernel_rfl) (by kernel_rfl)
end Go.Proofs.Qxb6601477a

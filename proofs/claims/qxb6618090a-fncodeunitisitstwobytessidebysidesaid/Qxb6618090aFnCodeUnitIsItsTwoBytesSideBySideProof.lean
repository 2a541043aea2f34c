/-
  THE SHELL OF A PROOF OF 'Rows.FnCodeUnitIsItsTwoBytesSideBySideSaid' ('example.com/interlock/interlock/zzlaws_internal_jsonfile_b1.FnCodeUnitIsItsTwoBytesSideBySide'), WRITTEN BY PROGRAM (proof-skeleton.mjs, third state) off the guide's own print for that function. Not trusted: Lean checks it.
  THE WALK IS FILLED IN BY HAND. ALL ELSE IS THE GUIDE's OWN WAY (howto/template/XProofs.lean; Derived/Test/ChunkProofs.lean for 'Below') at this function's number and types: leave it.
-/
import Derived.Test.Qxb6618090aRows
import Derived.WalkKit
import Derived.ProofKit
import Derived.OpenShut
import Derived.ShutString
import Derived.ChangeOld
import Derived.Below
import Derived.WalkSpells
import Derived.WalkLawsBesides
import Derived.Test.Qxb6618090aCopy
namespace Go.Proofs.Qxb6618090a.fnCodeUnitIsItsTwoBytesSideBySide
open Go.ChangeShapes Go.WideShapes Go.ChangeAt Go.RowKit
open Go.ChangeMaps (open_string shut_string)
set_option linter.unusedVariables false

theorem own : ownKnob Try.prog.godebug = none := by kernel_rfl
theorem laidOut : laidOutB Try.prog = true := by kernel_rfl

/-- WHAT THE WALK IS TOLD OF A SLICE OF INTEGERS THAT CAME IN: it is nil; or it leads to a row of 'cap' cells, the numbers 'zs' (the first 'len' are its elements, the rest its spare room), each fitting its kind. -/
def IsRow (k : IntKind) (w : World) (a : Option Addr) (len cap : Nat) (zs : List Int) : Prop :=
  (a = none ∧ len = 0 ∧ cap = 0 ∧ zs = []) ∨
  ∃ x, a = some x ∧ len ≤ cap ∧ cap ≤ maxLen ∧ zs.length = cap ∧ (∀ i, i < zs.length → w.cell? (x.add i) = some (.int k (zs.getD i 0))) ∧ ∀ n ∈ zs, (Lit.int k n).wf = true

/-! ### STEP 1: THE WALK -/
open Plain

/-- zzBytes at this law. -/
theorem bytes10 (a : Option Addr) (n c : Nat) (hn : n ≤ 1048576) (w : World) :
    Calls Try.prog 10 #[.slice a n c] w fun e w' => e = .returned (.bool true) ∧ w' = w := by
  have h1 : ¬ (1048576 : Int) < (n : Int) := by omega
  go_enter Try.func10, Try.ntmps10
  go_wp2
  go_ret
  exact ⟨rfl, rfl⟩
theorem bytes10_no (a : Option Addr) (n c : Nat) (hn : 1048576 < n) (w : World) :
    Calls Try.prog 10 #[.slice a n c] w fun e w' => e = .returned (.bool false) ∧ w' = w := by
  have h1 : (1048576 : Int) < (n : Int) := by omega
  go_enter Try.func10, Try.ntmps10
  go_wp2
  go_ret
  exact ⟨rfl, rfl⟩

/-- Too long: true at once. -/
theorem walk_long (a : Option Addr) (n c : Nat) (hn : 1048576 < n) (w : World) :
    Calls Try.prog 5 #[.slice a n c] w fun e w' => e = .returned (.bool true) ∧ w' = w := by
  go_enter Try.func5, Try.ntmps5
  go_wp2_with (go_at_call 10; refine (bytes10_no _ _ _ hn _).mono ?_; rintro e w' ⟨rfl, rfl⟩)
  go_ret
  exact ⟨rfl, rfl⟩

set_option maxRecDepth 100000 in
theorem walk_nil (w : World) :
    Calls Try.prog 5 #[.slice none 0 0] w fun e w' => e = .returned (.bool true) ∧ w' = w := by
  go_enter Try.func5, Try.ntmps5
  go_wp2_with (first | (go_at_call 10; refine (bytes10 _ _ _ (by omega) _).mono ?_; rintro e w' ⟨rfl, rfl⟩) | (go_at_call 8; refine (zz_short _ _ _ (by omega) _).mono ?_; rintro e w' ⟨rfl, rfl⟩))
  go_ret
  exact ⟨rfl, rfl⟩

/-- Fewer than six bytes. -/
theorem walk_short (x : Addr) (n cap : Nat) (f : Nat → Int) (hn : n < 6) (w : World) (hcell : ∀ j, j < n → w.cell? (x.add j) = some (.int .u8 (f j))) :
    Calls Try.prog 5 #[.slice (some x) n cap] w fun e w' => e = .returned (.bool true) ∧ Below w.heap.size w w' := by
  have h1 : ¬ (1048576 : Int) < (n : Int) := by omega
  have h2 : (n : Int) < 6 := by omega
  have hmk := made n (by omega)
  obtain ⟨w2, hcp, hc2, hb2, hs2⟩ := copied x n cap f w hcell
  clear hc2 hcell
  go_enter Try.func5, Try.ntmps5
  go_wp2_with (first | (go_at_call 10; refine (bytes10 _ _ _ (by omega) _).mono ?_; rintro e w' ⟨rfl, rfl⟩) | (go_at_call 8; refine (zz_short _ _ _ (by omega) _).mono ?_; rintro e w' ⟨rfl, rfl⟩))
  go_ret
  exact ⟨rfl, hb2⟩

theorem ret_true {b : Bool} (h : b = true) : Ending.returned (.bool b) = .returned (.bool true) := by rw [h]

/-! ### The two built slices, behind each other at the heap's end -/
theorem cell_first (w2 : World) (A : Array Value) (t : TypeId) (O2 : Obj) (B j : Nat) (h : B = w2.heap.size) : ((w2.alloc (.cells A t)).alloc O2).drew.drew.cell? ⟨B, j, none⟩ = A[j]? := by
  subst h
  have e : (((w2.alloc (.cells A t)).alloc O2).drew.drew).heap[w2.heap.size]? = some (.cells A t) := by
    show ((w2.heap.push (.cells A t)).push O2)[w2.heap.size]? = _
    rw [Array.getElem?_push, if_neg (by simp), Array.getElem?_push, if_pos rfl]
  simp only [World.cell?, e, Option.isSome_none, Bool.false_eq_true, if_false]
theorem cell_second (w2 : World) (O1 : Obj) (A : Array Value) (t : TypeId) (B j : Nat) (h : B = w2.heap.size + 1) : ((w2.alloc O1).alloc (.cells A t)).drew.drew.cell? ⟨B, j, none⟩ = A[j]? := by
  subst h
  have e : (((w2.alloc O1).alloc (.cells A t)).drew.drew).heap[w2.heap.size + 1]? = some (.cells A t) := by
    show ((w2.heap.push O1).push (.cells A t))[w2.heap.size + 1]? = _
    rw [Array.getElem?_push, if_pos (by simp)]
  simp only [World.cell?, e, Option.isSome_none, Bool.false_eq_true, if_false]

/-- Six bytes in a row of their own. -/
theorem zz_six (c0 c1 c2 c3 c4 c5 : Int) (h : (0 ≤ c0 ∧ c0 ≤ 255) ∧ (0 ≤ c1 ∧ c1 ≤ 255) ∧ (0 ≤ c2 ∧ c2 ≤ 255) ∧ (0 ≤ c3 ∧ c3 ≤ 255) ∧ (0 ≤ c4 ∧ c4 ≤ 255) ∧ (0 ≤ c5 ∧ c5 ≤ 255)) (W : World) (b : Nat)
    (hc : ∀ j, W.cell? ⟨b, j, none⟩ = (#[Value.int .u8 c0, .int .u8 c1, .int .u8 c2, .int .u8 c3, .int .u8 c4, .int .u8 c5] : Array Value)[j]?) :
    Calls Try.prog 8 #[.slice (some ⟨b, 0, none⟩) 6 6] W fun e w' => e = .returned (.int .i32 (cu c0 c1 c2 c3 c4 c5)) ∧ w' = W := by
  have K := zz_long b 0 6 6 (by omega) (by omega) (fun j => [c0, c1, c2, c3, c4, c5].getD j 0) (by
    intro j
    match j with
    | 0 => exact h.1
    | 1 => exact h.2.1
    | 2 => exact h.2.2.1
    | 3 => exact h.2.2.2.1
    | 4 => exact h.2.2.2.2.1
    | 5 => exact h.2.2.2.2.2
    | j + 6 => simp) W (by
    intro j hj
    rw [Nat.zero_add, hc j]
    match j, hj with
    | 0, _ => rfl
    | 1, _ => rfl
    | 2, _ => rfl
    | 3, _ => rfl
    | 4, _ => rfl
    | 5, _ => rfl)
  exact K

/-- WHAT THE WALK BEHIND THE TWO SLICES IS TOLD: the three answers and the last digit. -/
structure Tell (n : Nat) (a0 a1 a2 a3 a4 a5 va vb vc n5 : Int) (w w2 : World) : Prop where
  one : Calls Try.prog 8 #[.slice (some ⟨w.heap.size, 0, none⟩) n n] w2 fun e w' => e = .returned (.int .i32 va) ∧ w' = w2
  two : ∀ (W : World) (b : Nat), (∀ j, W.cell? ⟨b, j, none⟩ = (#[Value.int .u8 a0, .int .u8 a1, .int .u8 48, .int .u8 48, .int .u8 a2, .int .u8 a3] : Array Value)[j]?) →
    Calls Try.prog 8 #[.slice (some ⟨b, 0, none⟩) 6 6] W fun e w' => e = .returned (.int .i32 vb) ∧ w' = W
  three : ∀ (W : World) (b : Nat), (∀ j, W.cell? ⟨b, j, none⟩ = (#[Value.int .u8 a0, .int .u8 a1, .int .u8 48, .int .u8 48, .int .u8 a4, .int .u8 a5] : Array Value)[j]?) →
    Calls Try.prog 8 #[.slice (some ⟨b, 0, none⟩) 6 6] W fun e w' => e = .returned (.int .i32 vc) ∧ w' = W
  last : ∀ W : World, Calls Try.prog 7 #[.int .u8 a5] W fun e w' => e = .returned (.int .i32 n5) ∧ w' = W

set_option maxRecDepth 100000 in
/-- It opens otherwise: all three are refused. -/
theorem walk_other (x : Addr) (n cap : Nat) (a0 a1 a2 a3 a4 a5 n5 : Int) (hn6 : 6 ≤ n) (hn : n ≤ 1048576) (w w2 : World)
    (T : Tell n a0 a1 a2 a3 a4 a5 (-1) (-1) (-1) n5 w w2)
    (hcp : ∀ ty, (Builtin.copy_ #[22, 22] ty #[.slice (some ⟨w.heap.size, 0, none⟩) n n, .slice (some x) n cap]).run Try.prog (w.alloc (.cells (madeCells #[.int .u8 0] n) 5)) = .ok (.int .i64 (n : Int)) w2)
    (hb2 : Below w.heap.size w w2) (hs2 : w2.heap.size = w.heap.size + 1)
    (c0 : w2.cell? ⟨w.heap.size, 0, none⟩ = some (.int .u8 a0)) (c1 : w2.cell? ⟨w.heap.size, 1, none⟩ = some (.int .u8 a1)) (c2 : w2.cell? ⟨w.heap.size, 2, none⟩ = some (.int .u8 a2))
    (c3 : w2.cell? ⟨w.heap.size, 3, none⟩ = some (.int .u8 a3)) (c4 : w2.cell? ⟨w.heap.size, 4, none⟩ = some (.int .u8 a4)) (c5 : w2.cell? ⟨w.heap.size, 5, none⟩ = some (.int .u8 a5)) :
    Calls Try.prog 5 #[.slice (some x) n cap] w fun e w' => e = .returned (.bool true) ∧ Below w.heap.size w w' := by
  have h1 : ¬ (1048576 : Int) < (n : Int) := by omega
  have h2 : ¬ (n : Int) < 6 := by omega
  have h20 : (0 : Int) < (n : Int) := by omega
  have h21 : (1 : Int) < (n : Int) := by omega
  have h22 : (2 : Int) < (n : Int) := by omega
  have h23 : (3 : Int) < (n : Int) := by omega
  have h24 : (4 : Int) < (n : Int) := by omega
  have h25 : (5 : Int) < (n : Int) := by omega
  have hmk := made n (by omega)
  go_enter Try.func5, Try.ntmps5
  go_wp2_with (go_at_call 10; refine (bytes10 _ _ _ (by omega) _).mono ?_; rintro e w' ⟨rfl, rfl⟩)
  refine T.one.mono ?_
  rintro e w1 ⟨rfl, hw1⟩
  obtain rfl := hw1.symm
  go_wp2_with fail
  go_region
  go_wp2_with fail
  go_region
  go_wp2_with fail
  refine (T.two _ _ (fun j => cell_first _ _ _ _ _ j (by omega))).mono ?_
  rintro e w1 ⟨rfl, hw1⟩
  obtain rfl := hw1.symm
  go_wp2_with fail
  refine (T.three _ _ (fun j => cell_second _ _ _ _ _ j (by omega))).mono ?_
  rintro e w1 ⟨rfl, hw1⟩
  obtain rfl := hw1.symm
  go_wp2_with fail
  all_goals
    go_ret
    exact ⟨rfl, ((hb2.alloc (by omega) _).alloc (by simp; omega) _).drew.drew⟩

set_option maxRecDepth 100000 in
/-- It opens with backslash-u. -/
theorem walk_opens (x : Addr) (n cap : Nat) (a2 a3 a4 a5 va vb vc n5 : Int) (hn6 : 6 ≤ n) (hn : n ≤ 1048576) (b1 : -1 ≤ vb) (b2 : vb ≤ 255) (b3 : -1 ≤ vc) (b4 : vc ≤ 255)
    (hv : ((vb < 0 ∨ vc < 0) ∧ va = -1) ∨ (0 ≤ vb ∧ 0 ≤ vc ∧ bits .or .i32 (vb * 256) vc = va ∧ bits .and .i32 va 15 = n5)) (w w2 : World)
    (T : Tell n 92 117 a2 a3 a4 a5 va vb vc n5 w w2)
    (hcp : ∀ ty, (Builtin.copy_ #[22, 22] ty #[.slice (some ⟨w.heap.size, 0, none⟩) n n, .slice (some x) n cap]).run Try.prog (w.alloc (.cells (madeCells #[.int .u8 0] n) 5)) = .ok (.int .i64 (n : Int)) w2)
    (hb2 : Below w.heap.size w w2) (hs2 : w2.heap.size = w.heap.size + 1)
    (c0 : w2.cell? ⟨w.heap.size, 0, none⟩ = some (.int .u8 92)) (c1 : w2.cell? ⟨w.heap.size, 1, none⟩ = some (.int .u8 117)) (c2 : w2.cell? ⟨w.heap.size, 2, none⟩ = some (.int .u8 a2))
    (c3 : w2.cell? ⟨w.heap.size, 3, none⟩ = some (.int .u8 a3)) (c4 : w2.cell? ⟨w.heap.size, 4, none⟩ = some (.int .u8 a4)) (c5 : w2.cell? ⟨w.heap.size, 5, none⟩ = some (.int .u8 a5)) :
    Calls Try.prog 5 #[.slice (some x) n cap] w fun e w' => e = .returned (.bool true) ∧ Below w.heap.size w w' := by
  have h1 : ¬ (1048576 : Int) < (n : Int) := by omega
  have h2 : ¬ (n : Int) < 6 := by omega
  have h20 : (0 : Int) < (n : Int) := by omega
  have h21 : (1 : Int) < (n : Int) := by omega
  have h22 : (2 : Int) < (n : Int) := by omega
  have h23 : (3 : Int) < (n : Int) := by omega
  have h24 : (4 : Int) < (n : Int) := by omega
  have h25 : (5 : Int) < (n : Int) := by omega
  have hmk := made n (by omega)
  rcases hv with ⟨hneg, rfl⟩ | ⟨p1, p2, hor, hand⟩
  · go_enter Try.func5, Try.ntmps5
    go_wp2_with (go_at_call 10; refine (bytes10 _ _ _ (by omega) _).mono ?_; rintro e w' ⟨rfl, rfl⟩)
    refine T.one.mono ?_
    rintro e w1 ⟨rfl, hw1⟩
    obtain rfl := hw1.symm
    go_wp2_with fail
    go_region
    go_wp2_with fail
    go_region
    go_wp2_with fail
    refine (T.two _ _ (fun j => cell_first _ _ _ _ _ j (by omega))).mono ?_
    rintro e w1 ⟨rfl, hw1⟩
    obtain rfl := hw1.symm
    go_wp2_with fail
    refine (T.three _ _ (fun j => cell_second _ _ _ _ _ j (by omega))).mono ?_
    rintro e w1 ⟨rfl, hw1⟩
    obtain rfl := hw1.symm
    go_wp2_with fail
    all_goals
      go_ret
      exact ⟨rfl, ((hb2.alloc (by omega) _).alloc (by simp; omega) _).drew.drew⟩
  · go_enter Try.func5, Try.ntmps5
    go_wp2_with (go_at_call 10; refine (bytes10 _ _ _ (by omega) _).mono ?_; rintro e w' ⟨rfl, rfl⟩)
    refine T.one.mono ?_
    rintro e w1 ⟨rfl, hw1⟩
    obtain rfl := hw1.symm
    go_wp2_with fail
    go_region
    go_wp2_with fail
    go_region
    go_wp2_with fail
    refine (T.two _ _ (fun j => cell_first _ _ _ _ _ j (by omega))).mono ?_
    rintro e w1 ⟨rfl, hw1⟩
    obtain rfl := hw1.symm
    go_wp2_with fail
    refine (T.three _ _ (fun j => cell_second _ _ _ _ _ j (by omega))).mono ?_
    rintro e w1 ⟨rfl, hw1⟩
    obtain rfl := hw1.symm
    go_wp2_with fail
    refine (T.last _).mono ?_
    rintro e w1 ⟨rfl, hw1⟩
    obtain rfl := hw1.symm
    go_wp2_with fail
    go_ret
    exact ⟨rfl, ((hb2.alloc (by omega) _).alloc (by simp; omega) _).drew.drew⟩

/-! ### The reckoning: no Go in sight -/
theorem join8 (x d : Int) (h0 : 0 ≤ x) (h1 : x ≤ 255) (h2 : 0 ≤ d) (h3 : d ≤ 255) : bits .or .i32 (x * 256) d = x * 256 + d :=
  bits_join .i32 31 (by decide) wraps_i32 8 (x * 256) d (by omega) (by omega) (by omega) h2 (by omega) (by omega)
theorem low4 (x : Int) (h0 : 0 ≤ x) (h1 : x ≤ 65535) : bits .and .i32 x 15 = x % 16 :=
  bits_mask .i32 31 (by decide) wraps_i32 4 (by decide) x h0 (by omega)

theorem sides (a2 a3 a4 a5 : Int) :
    ((un 48 48 a2 a3 < 0 ∨ un 48 48 a4 a5 < 0) ∧ un a2 a3 a4 a5 = -1) ∨
    (0 ≤ un 48 48 a2 a3 ∧ 0 ≤ un 48 48 a4 a5 ∧ bits .or .i32 (un 48 48 a2 a3 * 256) (un 48 48 a4 a5) = un a2 a3 a4 a5 ∧ bits .and .i32 (un a2 a3 a4 a5) 15 = nib a5) := by
  have r2 := nib_range a2
  have r3 := nib_range a3
  have r4 := nib_range a4
  have r5 := nib_range a5
  rw [un_zero, un_zero]
  by_cases g1 : 0 ≤ nib a2 ∧ 0 ≤ nib a3
  · rw [if_pos g1]
    by_cases g2 : 0 ≤ nib a4 ∧ 0 ≤ nib a5
    · rw [if_pos g2]
      have hu : un a2 a3 a4 a5 = nib a2 * 4096 + nib a3 * 256 + nib a4 * 16 + nib a5 := by
        unfold un
        rw [if_pos ⟨g1.1, g1.2, g2.1, g2.2⟩]
      right
      rw [hu]
      refine ⟨by omega, by omega, ?_, ?_⟩
      · rw [join8 _ _ (by omega) (by omega) (by omega) (by omega)]
        omega
      · rw [low4 _ (by omega) (by omega)]
        omega
    · left
      rw [if_neg g2]
      refine ⟨.inr (by omega), ?_⟩
      unfold un
      rw [if_neg (fun q => g2 ⟨q.2.2.1, q.2.2.2⟩)]
  · left
    rw [if_neg g1]
    refine ⟨.inl (by omega), ?_⟩
    unfold un
    rw [if_neg (fun q => g1 ⟨q.1, q.2.1⟩)]

theorem half_range (a b : Int) : -1 ≤ un 48 48 a b ∧ un 48 48 a b ≤ 255 := by
  have r1 := nib_range a
  have r2 := nib_range b
  rw [un_zero]
  split <;> omega

/-- Six bytes or more. -/
theorem walk_six (x : Addr) (n cap : Nat) (f : Nat → Int) (hf : ∀ j, 0 ≤ f j ∧ f j ≤ 255) (hn6 : 6 ≤ n) (hn : n ≤ 1048576) (w : World) (hcell : ∀ j, j < n → w.cell? (x.add j) = some (.int .u8 (f j))) :
    Calls Try.prog 5 #[.slice (some x) n cap] w fun e w' => e = .returned (.bool true) ∧ Below w.heap.size w w' := by
  obtain ⟨w2, hcp, hc2, hb2, hs2⟩ := copied x n cap f w hcell
  have K := zz_long w.heap.size 0 n n hn6 (Nat.le_refl _) f hf w2 (fun j hj => by rw [Nat.zero_add]; exact hc2 j (by omega))
  have c0 := hc2 0 (by omega)
  have c1 := hc2 1 (by omega)
  have c2 := hc2 2 (by omega)
  have c3 := hc2 3 (by omega)
  have c4 := hc2 4 (by omega)
  have c5 := hc2 5 (by omega)
  have T : Tell n (f 0) (f 1) (f 2) (f 3) (f 4) (f 5) (cu (f 0) (f 1) (f 2) (f 3) (f 4) (f 5)) (cu (f 0) (f 1) 48 48 (f 2) (f 3)) (cu (f 0) (f 1) 48 48 (f 4) (f 5)) (nib (f 5)) w w2 :=
    ⟨K, zz_six (f 0) (f 1) 48 48 (f 2) (f 3) ⟨hf 0, hf 1, by omega, by omega, hf 2, hf 3⟩, zz_six (f 0) (f 1) 48 48 (f 4) (f 5) ⟨hf 0, hf 1, by omega, by omega, hf 4, hf 5⟩, nibble (f 5)⟩
  by_cases ho : f 0 = 92 ∧ f 1 = 117
  · rw [ho.1] at c0 T
    rw [ho.2] at c1 T
    have e : ∀ a b c d : Int, cu 92 117 a b c d = un a b c d := fun a b c d => if_pos ⟨rfl, rfl⟩
    rw [e, e, e] at T
    exact walk_opens x n cap (f 2) (f 3) (f 4) (f 5) _ _ _ _ hn6 hn (half_range _ _).1 (half_range _ _).2 (half_range _ _).1 (half_range _ _).2 (sides _ _ _ _) w w2 T hcp hb2 hs2 c0 c1 c2 c3 c4 c5
  · have e : ∀ a b c d : Int, cu (f 0) (f 1) a b c d = -1 := fun a b c d => if_neg ho
    rw [e, e, e] at T
    exact walk_other x n cap (f 0) (f 1) (f 2) (f 3) (f 4) (f 5) _ hn6 hn w w2 T hcp hb2 hs2 c0 c1 c2 c3 c4 c5

theorem walk (a0 : Option Addr) (len0 cap0 : Nat) (z0 : List Int) (w : World) (w0 : IsRow .u8 w a0 len0 cap0 z0) :
    Calls Try.prog 5 #[.slice a0 len0 cap0] w fun e w' => e = .returned (.bool true) ∧ Below w.heap.size w w' := by
  by_cases hn : len0 ≤ 1048576
  · rcases w0 with ⟨rfl, rfl, rfl, rfl⟩ | ⟨x, rfl, hl, hm, hz, hcell, hwz⟩
    · refine (walk_nil w).mono ?_
      rintro e w' ⟨he, rfl⟩
      exact ⟨he, Below.refl _ _⟩
    · have hc : ∀ j, j < len0 → w.cell? (x.add j) = some (.int .u8 (z0.getD j 0)) := fun j hj => hcell j (by omega)
      have hf := range_of_wf hwz
      by_cases hn6 : len0 < 6
      · exact walk_short x len0 cap0 (fun j => z0.getD j 0) hn6 w hc
      · exact walk_six x len0 cap0 (fun j => z0.getD j 0) hf (by omega) hn w hc
  · refine (walk_long a0 len0 cap0 (by omega) w).mono ?_
    rintro e w' ⟨he, rfl⟩
    exact ⟨he, Below.refl _ _⟩

/-! ### THE ROW's STEP: WRITTEN OUT: LEAVE IT -/
set_option maxRecDepth 100000 in
theorem lifted (os : Os) (started : os.Started) (H : Type) (enc : TypeId × Value → H) :
    ReturnsInHanded {} Try.checked os 5 .any (Rows.fnCodeUnitIsItsTwoBytesSideBySideSpec.pre6 enc Try.prog Try.f5 Rows.fnCodeUnitIsItsTwoBytesSideBySideRow.domain false) (Rows.fnCodeUnitIsItsTwoBytesSideBySideSpec.post enc Try.prog Try.f5 false true false false) := by
  refine returnsInHanded_of_change (C := Try.checked) own started (by kernel_rfl) Try.func5
    (ChangeSpec.witness6 (enc := enc) (C := Try.checked) false ⟨#[], #[.slice none 0 0], []⟩ 8 (by kernel_rfl) (by kernel_rfl) (by kernel_rfl) (by kernel_rfl)) ?_
  intro W base args ds gs before hval0 hW hcnd _
  have hval : ∀ (j : Nat) t v, Try.f5.params[j]? = some t → args[j]? = some v → Value.okWide Try.prog W .any base t v := hval0
  have hW' := hW
  obtain ⟨p, q, hA0, hV, rfl, hfz, hnd⟩ := hW
  have hA : DataW.TrodAll enc Try.prog W 0 (fun _ => true) true Try.f5.params.toList args.toList ds p := hA0
  rw [Try.params5] at hA hval
  obtain ⟨v0, vs0, d0, ds0, p0, q0, hargs, rfl, rfl, h0, r0⟩ := trodAll_cons hA
  obtain ⟨rfl, rfl, rfl⟩ := trodAll_nil r0
  obtain rfl : args = #[v0] := by cases args; simp_all
  obtain ⟨rfl, rfl⟩ := trodVars_none hV
  obtain ⟨a0, len0, cap0, rfl⟩ := okWide_slice Try.underlying22 (hval 0 22 v0 rfl rfl)
  have k0 := h0
  have lt0 : ∀ x ∈ p0, x.block < W.heap.size := by obtain ⟨m, hm⟩ := k0; exact DataW.trod_lt m _ _ _ hm
  obtain ⟨z0, w0⟩ : ∃ zs, IsRow .u8 W a0 len0 cap0 zs := by
    obtain ⟨fuel, hf⟩ := h0
    rcases open_ints Try.underlying22 Try.underlying5 (by kernel_rfl) hf with ⟨hcs, _⟩ | ⟨x, l, c, zs, hcs, _, hl, hm, hz, _, hcell, hwz⟩
    · simp [Value.cells] at hcs
      obtain ⟨rfl, rfl, rfl⟩ := hcs
      exact ⟨[], .inl ⟨rfl, rfl, rfl, rfl⟩⟩
    · simp [Value.cells] at hcs
      obtain ⟨rfl, rfl, rfl⟩ := hcs
      exact ⟨zs, .inr ⟨_, rfl, hl, hm, by simpa using hz, hcell, hwz⟩⟩
  clear hA0 hval0
  refine (walk a0 len0 cap0 z0 W w0).mono fun e W' ⟨he, bel⟩ => ?_
  subst he
  exact ⟨_, rfl, _, _, _, [], _, [], hW', trodAll_mk1 (shut_bool Try.underlying4 _), (trodAll_cons_mk (Below.trod laidOut (by kernel_rfl) (of_decide_eq_true (by kernel_rfl)) k0 bel lt0) trodAll_mk0), rfl, bel.frame _, fun h => by cases h⟩

theorem over : Rows.fnCodeUnitIsItsTwoBytesSideBySideRow.holds Try.pinned (OpenSpec.ofChange Rows.fnCodeUnitIsItsTwoBytesSideBySideSpec) :=
  OpenClaim.holds_of_wide 5 Try.f5 rfl rfl rfl rfl rfl rfl rfl ⟨rfl, rfl, rfl, rfl, rfl⟩ rfl rfl rfl rfl rfl (by kernel_rfl) Try.func5 (by kernel_rfl)
    (of_decide_eq_true (by kernel_rfl)) (by unfold Func.isWrapper; first | (rw [if_pos (by decide +kernel)]; kernel_rfl) | (rw [if_neg (by decide +kernel)]; exact ⟨rfl, rfl⟩))
    (fun os started H enc _ => lifted os started H enc)

/-- ████ THE STATEMENT ████ -/
theorem proved : Rows.FnCodeUnitIsItsTwoBytesSideBySideSaid := over
#print axioms proved
end Go.Proofs.Qxb6618090a.fnCodeUnitIsItsTwoBytesSideBySide

/-
  THE SHELL OF A PROOF OF 'Rows.FnCodeUnitIsTheEscapesHexValueSaid' ('example.com/interlock/interlock/zzlaws_internal_jsonfile_b1.FnCodeUnitIsTheEscapesHexValue'), WRITTEN BY PROGRAM (proof-skeleton.mjs, third state) off the guide's own print for that function. Not trusted: Lean checks it.
  THE WALK IS FILLED IN BY HAND. ALL ELSE IS THE GUIDE's OWN WAY (howto/template/XProofs.lean; Derived/Test/ChunkProofs.lean for 'Below') at this function's number and types: leave it.
-/
import Derived.Test.Qxb6618090aRows
import Derived.WalkKit
import Derived.ProofKit
import Derived.OpenShut
import Derived.ShutString
import Derived.ChangeOld
import Derived.Below
import Derived.WalkSpells
import Derived.WalkLawsBesides
import Derived.Test.Qxb6618090aCopy
namespace Go.Proofs.Qxb6618090a.fnCodeUnitIsTheEscapesHexValue
open Go.ChangeShapes Go.WideShapes Go.ChangeAt Go.RowKit
open Go.ChangeMaps (open_string shut_string)
set_option linter.unusedVariables false

theorem own : ownKnob Try.prog.godebug = none := by kernel_rfl
theorem laidOut : laidOutB Try.prog = true := by kernel_rfl

/-- WHAT THE WALK IS TOLD OF A SLICE OF INTEGERS THAT CAME IN: it is nil; or it leads to a row of 'cap' cells, the numbers 'zs' (the first 'len' are its elements, the rest its spare room), each fitting its kind. -/
def IsRow (k : IntKind) (w : World) (a : Option Addr) (len cap : Nat) (zs : List Int) : Prop :=
  (a = none ∧ len = 0 ∧ cap = 0 ∧ zs = []) ∨
  ∃ x, a = some x ∧ len ≤ cap ∧ cap ≤ maxLen ∧ zs.length = cap ∧ (∀ i, i < zs.length → w.cell? (x.add i) = some (.int k (zs.getD i 0))) ∧ ∀ n ∈ zs, (Lit.int k n).wf = true

/-! ### STEP 1: THE WALK -/
open Plain

/-- Too long: true at once. -/
theorem walk_long (a : Option Addr) (n c : Nat) (hn : 1048576 < n) (w : World) :
    Calls Try.prog 3 #[.slice a n c] w fun e w' => e = .returned (.bool true) ∧ w' = w := by
  go_enter Try.func3, Try.ntmps3
  go_wp2_with (go_at_call 6; refine (bytes6_no _ _ _ hn _).mono ?_; rintro e w' ⟨rfl, rfl⟩)
  go_ret
  exact ⟨rfl, rfl⟩

/-- The nil slice. -/
theorem walk_nil (w : World) :
    Calls Try.prog 3 #[.slice none 0 0] w fun e w' => e = .returned (.bool true) ∧ w' = w := by
  go_enter Try.func3, Try.ntmps3
  go_wp2_with (first | (go_at_call 6; refine (bytes6 _ _ _ (by omega) _).mono ?_; rintro e w' ⟨rfl, rfl⟩) | (go_at_call 8; refine (zz_short _ _ _ (by omega) _).mono ?_; rintro e w' ⟨rfl, rfl⟩))
  go_ret
  exact ⟨rfl, rfl⟩

/-- Fewer than six bytes. -/
theorem walk_short (x : Addr) (n cap : Nat) (f : Nat → Int) (hn : n < 6) (w : World) (hcell : ∀ j, j < n → w.cell? (x.add j) = some (.int .u8 (f j))) :
    Calls Try.prog 3 #[.slice (some x) n cap] w fun e w' => e = .returned (.bool true) ∧ Below w.heap.size w w' := by
  have h1 : ¬ (1048576 : Int) < (n : Int) := by omega
  have h2 : decide ((6 : Int) ≤ (n : Int)) = false := decide_eq_false (by omega)
  have hmk := made n (by omega)
  obtain ⟨w2, hcp, hc2, hb2, hs2⟩ := copied x n cap f w hcell
  clear hc2 hcell
  go_enter Try.func3, Try.ntmps3
  go_wp2_with (first | (go_at_call 6; refine (bytes6 _ _ _ (by omega) _).mono ?_; rintro e w' ⟨rfl, rfl⟩) | (go_at_call 8; refine (zz_short _ _ _ (by omega) _).mono ?_; rintro e w' ⟨rfl, rfl⟩))
  go_ret
  exact ⟨rfl, hb2⟩

/-- Six bytes or more that open otherwise. -/
theorem walk_other (x : Addr) (n cap : Nat) (f : Nat → Int) (hf : ∀ j, 0 ≤ f j ∧ f j ≤ 255) (hn6 : 6 ≤ n) (hn : n ≤ 1048576) (ho : ¬ (f 0 = 92 ∧ f 1 = 117)) (w : World) (hcell : ∀ j, j < n → w.cell? (x.add j) = some (.int .u8 (f j))) :
    Calls Try.prog 3 #[.slice (some x) n cap] w fun e w' => e = .returned (.bool true) ∧ Below w.heap.size w w' := by
  have h1 : ¬ (1048576 : Int) < (n : Int) := by omega
  have h2 : (6 : Int) ≤ (n : Int) := by omega
  have hmk := made n (by omega)
  obtain ⟨w2, hcp, hc2, hb2, hs2⟩ := copied x n cap f w hcell
  have K := zz_long w.heap.size 0 n n hn6 (Nat.le_refl _) f hf w2 (fun j hj => by rw [Nat.zero_add]; exact hc2 j (by omega))
  have hr : cu (f 0) (f 1) (f 2) (f 3) (f 4) (f 5) = -1 := by unfold cu; rw [if_neg ho]
  rw [hr] at K
  have H : Hid (Calls Try.prog 8 #[.slice (some ⟨w.heap.size, 0, none⟩) n n] w2 fun e w' => e = .returned (.int .i32 (-1)) ∧ w' = w2) := K
  have c0 := hc2 0 (by omega)
  have c1 := hc2 1 (by omega)
  generalize f 0 = a0 at c0 ho
  generalize f 1 = a1 at c1 ho
  clear K hr hc2 hcell hf f
  by_cases e0 : a0 = 92
  · subst e0
    have e1 : (a1 == 117) = false := by simp; intro e; exact ho ⟨rfl, e⟩
    clear ho
    go_enter Try.func3, Try.ntmps3
    go_wp2_with (first | (go_at_call 6; refine (bytes6 _ _ _ (by omega) _).mono ?_; rintro e w' ⟨rfl, rfl⟩) | (go_at_call 8; refine H.out.mono ?_; rintro e w' ⟨rfl, rfl⟩))
    go_ret
    exact ⟨rfl, hb2⟩
  · have e0' : (a0 == 92) = false := by simpa using e0
    clear ho
    go_enter Try.func3, Try.ntmps3
    go_wp2_with (first | (go_at_call 6; refine (bytes6 _ _ _ (by omega) _).mono ?_; rintro e w' ⟨rfl, rfl⟩) | (go_at_call 8; refine H.out.mono ?_; rintro e w' ⟨rfl, rfl⟩))
    go_ret
    exact ⟨rfl, hb2⟩

theorem ret_true {b : Bool} (h : b = true) : Ending.returned (.bool b) = .returned (.bool true) := by rw [h]

/-- Six bytes or more that open with backslash-u. -/
theorem walk_opens (x : Addr) (n cap : Nat) (f : Nat → Int) (hf : ∀ j, 0 ≤ f j ∧ f j ≤ 255) (hn6 : 6 ≤ n) (hn : n ≤ 1048576) (ho : f 0 = 92 ∧ f 1 = 117) (w : World) (hcell : ∀ j, j < n → w.cell? (x.add j) = some (.int .u8 (f j))) :
    Calls Try.prog 3 #[.slice (some x) n cap] w fun e w' => e = .returned (.bool true) ∧ Below w.heap.size w w' := by
  have h1 : ¬ (1048576 : Int) < (n : Int) := by omega
  have h2 : (6 : Int) ≤ (n : Int) := by omega
  have h22 : (2 : Int) < (n : Int) := by omega
  have h23 : (3 : Int) < (n : Int) := by omega
  have h24 : (4 : Int) < (n : Int) := by omega
  have h25 : (5 : Int) < (n : Int) := by omega
  have hmk := made n (by omega)
  obtain ⟨w2, hcp, hc2, hb2, hs2⟩ := copied x n cap f w hcell
  have K := zz_long w.heap.size 0 n n hn6 (Nat.le_refl _) f hf w2 (fun j hj => by rw [Nat.zero_add]; exact hc2 j (by omega))
  have hr : cu (f 0) (f 1) (f 2) (f 3) (f 4) (f 5) = un (f 2) (f 3) (f 4) (f 5) := by unfold cu; rw [if_pos ho]
  rw [hr] at K
  have c0 := hc2 0 (by omega)
  have c1 := hc2 1 (by omega)
  have c2 := hc2 2 (by omega)
  have c3 := hc2 3 (by omega)
  have c4 := hc2 4 (by omega)
  have c5 := hc2 5 (by omega)
  rw [ho.1] at c0
  rw [ho.2] at c1
  generalize f 2 = a2 at c2 K
  generalize f 3 = a3 at c3 K
  generalize f 4 = a4 at c4 K
  generalize f 5 = a5 at c5 K
  clear hr hc2 hcell hf ho f
  have N2 := nibble a2 w2
  have N3 := nibble a3 w2
  have N4 := nibble a4 w2
  have N5 := nibble a5 w2
  have r2 := nib_range a2
  have r3 := nib_range a3
  have r4 := nib_range a4
  have r5 := nib_range a5
  have hu : un a2 a3 a4 a5 = if 0 ≤ nib a2 ∧ 0 ≤ nib a3 ∧ 0 ≤ nib a4 ∧ 0 ≤ nib a5 then nib a2 * 4096 + nib a3 * 256 + nib a4 * 16 + nib a5 else -1 := rfl
  generalize nib a2 = n2 at *
  generalize nib a3 = n3 at *
  generalize nib a4 = n4 at *
  generalize nib a5 = n5 at *
  generalize un a2 a3 a4 a5 = u at *
  have H : Hid (Calls Try.prog 8 #[.slice (some ⟨w.heap.size, 0, none⟩) n n] w2 fun e w' => e = .returned (.int .i32 u) ∧ w' = w2) := K
  have H2 : Hid (Calls Try.prog 7 #[.int .u8 a2] w2 fun e w' => e = .returned (.int .i32 n2) ∧ w' = w2) := N2
  have H3 : Hid (Calls Try.prog 7 #[.int .u8 a3] w2 fun e w' => e = .returned (.int .i32 n3) ∧ w' = w2) := N3
  have H4 : Hid (Calls Try.prog 7 #[.int .u8 a4] w2 fun e w' => e = .returned (.int .i32 n4) ∧ w' = w2) := N4
  have H5 : Hid (Calls Try.prog 7 #[.int .u8 a5] w2 fun e w' => e = .returned (.int .i32 n5) ∧ w' = w2) := N5
  clear K N2 N3 N4 N5
  obtain ⟨r21, r22⟩ := r2
  obtain ⟨r31, r32⟩ := r3
  obtain ⟨r41, r42⟩ := r4
  obtain ⟨r51, r52⟩ := r5
  have HU : Hid (u = if 0 ≤ n2 ∧ 0 ≤ n3 ∧ 0 ≤ n4 ∧ 0 ≤ n5 then n2 * 4096 + n3 * 256 + n4 * 16 + n5 else -1) := hu
  clear hu
  go_enter Try.func3, Try.ntmps3
  go_wp2_with (go_at_call 6; refine (bytes6 _ _ _ (by omega) _).mono ?_; rintro e w' ⟨rfl, rfl⟩)
  refine H2.out.mono ?_
  rintro e w' ⟨rfl, rfl⟩
  go_wp2_with fail
  refine H3.out.mono ?_
  rintro e w' ⟨rfl, rfl⟩
  go_wp2_with fail
  refine H4.out.mono ?_
  rintro e w' ⟨rfl, rfl⟩
  go_wp2_with fail
  refine H5.out.mono ?_
  rintro e w' ⟨rfl, rfl⟩
  go_wp2_with (go_at_call 8; refine H.out.mono ?_; rintro e w' ⟨rfl, rfl⟩)
  all_goals
    have hu := HU.out
    go_ret
    refine ⟨ret_true ?_, hb2⟩
    first
      | (rw [if_pos ⟨by omega, by omega, by omega, by omega⟩] at hu; rw [hu]; simp; done)
      | (rw [if_neg (by omega)] at hu; rw [hu]; simp; done)

theorem walk (a0 : Option Addr) (len0 cap0 : Nat) (z0 : List Int) (w : World) (w0 : IsRow .u8 w a0 len0 cap0 z0) :
    Calls Try.prog 3 #[.slice a0 len0 cap0] w fun e w' => e = .returned (.bool true) ∧ Below w.heap.size w w' := by
  by_cases hn : len0 ≤ 1048576
  · rcases w0 with ⟨rfl, rfl, rfl, rfl⟩ | ⟨x, rfl, hl, hm, hz, hcell, hwz⟩
    · refine (walk_nil w).mono ?_
      rintro e w' ⟨he, rfl⟩
      exact ⟨he, Below.refl _ _⟩
    · have hc : ∀ j, j < len0 → w.cell? (x.add j) = some (.int .u8 (z0.getD j 0)) := fun j hj => hcell j (by omega)
      have hf := range_of_wf hwz
      by_cases hn6 : len0 < 6
      · exact walk_short x len0 cap0 (fun j => z0.getD j 0) hn6 w hc
      · by_cases ho : z0.getD 0 0 = 92 ∧ z0.getD 1 0 = 117
        · exact walk_opens x len0 cap0 (fun j => z0.getD j 0) hf (by omega) hn ho w hc
        · exact walk_other x len0 cap0 (fun j => z0.getD j 0) hf (by omega) hn ho w hc
  · refine (walk_long a0 len0 cap0 (by omega) w).mono ?_
    rintro e w' ⟨he, rfl⟩
    exact ⟨he, Below.refl _ _⟩

/-! ### THE ROW's STEP: WRITTEN OUT: LEAVE IT -/
set_option maxRecDepth 100000 in
theorem lifted (os : Os) (started : os.Started) (H : Type) (enc : TypeId × Value → H) :
    ReturnsInHanded {} Try.checked os 3 .any (Rows.fnCodeUnitIsTheEscapesHexValueSpec.pre6 enc Try.prog Try.f3 Rows.fnCodeUnitIsTheEscapesHexValueRow.domain false) (Rows.fnCodeUnitIsTheEscapesHexValueSpec.post enc Try.prog Try.f3 false true false false) := by
  refine returnsInHanded_of_change (C := Try.checked) own started (by kernel_rfl) Try.func3
    (ChangeSpec.witness6 (enc := enc) (C := Try.checked) false ⟨#[], #[.slice none 0 0], []⟩ 8 (by kernel_rfl) (by kernel_rfl) (by kernel_rfl) (by kernel_rfl)) ?_
  intro W base args ds gs before hval0 hW hcnd _
  have hval : ∀ (j : Nat) t v, Try.f3.params[j]? = some t → args[j]? = some v → Value.okWide Try.prog W .any base t v := hval0
  have hW' := hW
  obtain ⟨p, q, hA0, hV, rfl, hfz, hnd⟩ := hW
  have hA : DataW.TrodAll enc Try.prog W 0 (fun _ => true) true Try.f3.params.toList args.toList ds p := hA0
  rw [Try.params3] at hA hval
  obtain ⟨v0, vs0, d0, ds0, p0, q0, hargs, rfl, rfl, h0, r0⟩ := trodAll_cons hA
  obtain ⟨rfl, rfl, rfl⟩ := trodAll_nil r0
  obtain rfl : args = #[v0] := by cases args; simp_all
  obtain ⟨rfl, rfl⟩ := trodVars_none hV
  obtain ⟨a0, len0, cap0, rfl⟩ := okWide_slice Try.underlying22 (hval 0 22 v0 rfl rfl)
  have k0 := h0
  have lt0 : ∀ x ∈ p0, x.block < W.heap.size := by obtain ⟨m, hm⟩ := k0; exact DataW.trod_lt m _ _ _ hm
  obtain ⟨z0, w0⟩ : ∃ zs, IsRow .u8 W a0 len0 cap0 zs := by
    obtain ⟨fuel, hf⟩ := h0
    rcases open_ints Try.underlying22 Try.underlying5 (by kernel_rfl) hf with ⟨hcs, _⟩ | ⟨x, l, c, zs, hcs, _, hl, hm, hz, _, hcell, hwz⟩
    · simp [Value.cells] at hcs
      obtain ⟨rfl, rfl, rfl⟩ := hcs
      exact ⟨[], .inl ⟨rfl, rfl, rfl, rfl⟩⟩
    · simp [Value.cells] at hcs
      obtain ⟨rfl, rfl, rfl⟩ := hcs
      exact ⟨zs, .inr ⟨_, rfl, hl, hm, by simpa using hz, hcell, hwz⟩⟩
  clear hA0 hval0
  refine (walk a0 len0 cap0 z0 W w0).mono fun e W' ⟨he, bel⟩ => ?_
  subst he
  exact ⟨_, rfl, _, _, _, [], _, [], hW', trodAll_mk1 (shut_bool Try.underlying4 _), (trodAll_cons_mk (Below.trod laidOut (by kernel_rfl) (of_decide_eq_true (by kernel_rfl)) k0 bel lt0) trodAll_mk0), rfl, bel.frame _, fun h => by cases h⟩

theorem over : Rows.fnCodeUnitIsTheEscapesHexValueRow.holds Try.pinned (OpenSpec.ofChange Rows.fnCodeUnitIsTheEscapesHexValueSpec) :=
  OpenClaim.holds_of_wide 3 Try.f3 rfl rfl rfl rfl rfl rfl rfl ⟨rfl, rfl, rfl, rfl, rfl⟩ rfl rfl rfl rfl rfl (by kernel_rfl) Try.func3 (by kernel_rfl)
    (of_decide_eq_true (by kernel_rfl)) (by unfold Func.isWrapper; first | (rw [if_pos (by decide +kernel)]; kernel_rfl) | (rw [if_neg (by decide +kernel)]; exact ⟨rfl, rfl⟩))
    (fun os started H enc _ => lifted os started H enc)

/-- ████ THE STATEMENT ████ -/
theorem proved : Rows.FnCodeUnitIsTheEscapesHexValueSaid := over
#print axioms proved
end Go.Proofs.Qxb6618090a.fnCodeUnitIsTheEscapesHexValue

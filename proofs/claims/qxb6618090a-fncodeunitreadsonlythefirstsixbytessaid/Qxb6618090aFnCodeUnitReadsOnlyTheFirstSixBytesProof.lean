/-
  THE SHELL OF A PROOF OF 'Rows.FnCodeUnitReadsOnlyTheFirstSixBytesSaid' ('example.com/interlock/interlock/zzlaws_internal_jsonfile_b1.FnCodeUnitReadsOnlyTheFirstSixBytes'), WRITTEN BY PROGRAM (proof-skeleton.mjs, third state) off the guide's own print for that function. Not trusted: Lean checks it.
  THE WALK IS FILLED IN BY HAND. ALL ELSE IS THE GUIDE's OWN WAY (howto/template/XProofs.lean; Derived/Test/ChunkProofs.lean for 'Below') at this function's number and types: leave it.
-/
import Derived.Test.Qxb6618090aRows
import Derived.WalkKit
import Derived.ProofKit
import Derived.OpenShut
import Derived.ShutString
import Derived.ChangeOld
import Derived.Below
import Derived.WalkSpells
import Derived.WalkLawsBesides
import Derived.Test.Qxb6618090aCopy
namespace Go.Proofs.Qxb6618090a.fnCodeUnitReadsOnlyTheFirstSixBytes
open Go.ChangeShapes Go.WideShapes Go.ChangeAt Go.RowKit
open Go.ChangeMaps (open_string shut_string)
set_option linter.unusedVariables false

theorem own : ownKnob Try.prog.godebug = none := by kernel_rfl
theorem laidOut : laidOutB Try.prog = true := by kernel_rfl

/-- WHAT THE WALK IS TOLD OF A SLICE OF INTEGERS THAT CAME IN: it is nil; or it leads to a row of 'cap' cells, the numbers 'zs' (the first 'len' are its elements, the rest its spare room), each fitting its kind. -/
def IsRow (k : IntKind) (w : World) (a : Option Addr) (len cap : Nat) (zs : List Int) : Prop :=
  (a = none ∧ len = 0 ∧ cap = 0 ∧ zs = []) ∨
  ∃ x, a = some x ∧ len ≤ cap ∧ cap ≤ maxLen ∧ zs.length = cap ∧ (∀ i, i < zs.length → w.cell? (x.add i) = some (.int k (zs.getD i 0))) ∧ ∀ n ∈ zs, (Lit.int k n).wf = true

/-! ### STEP 1: THE WALK -/
open Plain

/-- zzBytes at this law. -/
theorem bytes9 (a : Option Addr) (n c : Nat) (k : Int) (hn : n ≤ 1048576) (w : World) :
    Calls Try.prog 9 #[.slice a n c, .int .i64 k] w fun e w' => e = .returned (.bool true) ∧ w' = w := by
  have h1 : ¬ (1048576 : Int) < (n : Int) := by omega
  go_enter Try.func9, Try.ntmps9
  go_wp2
  go_ret
  exact ⟨rfl, rfl⟩
theorem bytes9_no (a : Option Addr) (n c : Nat) (k : Int) (hn : 1048576 < n) (w : World) :
    Calls Try.prog 9 #[.slice a n c, .int .i64 k] w fun e w' => e = .returned (.bool false) ∧ w' = w := by
  have h1 : (1048576 : Int) < (n : Int) := by omega
  go_enter Try.func9, Try.ntmps9
  go_wp2
  go_ret
  exact ⟨rfl, rfl⟩

/-- Too long: true at once. -/
theorem walk_long (a : Option Addr) (n c : Nat) (k : Int) (hn : 1048576 < n) (w : World) :
    Calls Try.prog 4 #[.slice a n c, .int .i64 k] w fun e w' => e = .returned (.bool true) ∧ w' = w := by
  go_enter Try.func4, Try.ntmps4
  go_wp2_with (go_at_call 9; refine (bytes9_no _ _ _ _ hn _).mono ?_; rintro e w' ⟨rfl, rfl⟩)
  go_ret
  exact ⟨rfl, rfl⟩

/-- A cut that is none: true at once. -/
theorem walk_nocut (a : Option Addr) (n c : Nat) (k : Int) (hn : n ≤ 1048576) (hk : k < 0 ∨ (n : Int) < k) (w : World) :
    Calls Try.prog 4 #[.slice a n c, .int .i64 k] w fun e w' => e = .returned (.bool true) ∧ w' = w := by
  have h1 : ¬ (1048576 : Int) < (n : Int) := by omega
  rcases hk with hk | hk
  · go_enter Try.func4, Try.ntmps4
    go_wp2_with (go_at_call 9; refine (bytes9 _ _ _ _ hn _).mono ?_; rintro e w' ⟨rfl, rfl⟩)
    go_ret
    exact ⟨rfl, rfl⟩
  · have h0 : ¬ k < 0 := by omega
    go_enter Try.func4, Try.ntmps4
    go_wp2_with (go_at_call 9; refine (bytes9 _ _ _ _ hn _).mono ?_; rintro e w' ⟨rfl, rfl⟩)
    go_ret
    exact ⟨rfl, rfl⟩

/-- The nil slice, the one cut of it. -/
theorem walk_nil (w : World) :
    Calls Try.prog 4 #[.slice none 0 0, .int .i64 0] w fun e w' => e = .returned (.bool true) ∧ w' = w := by
  go_enter Try.func4, Try.ntmps4
  go_wp2_with (first | (go_at_call 9; refine (bytes9 _ _ _ _ (by omega) _).mono ?_; rintro e w' ⟨rfl, rfl⟩) | (go_at_call 8; refine (zz_short _ _ _ (by omega) _).mono ?_; rintro e w' ⟨rfl, rfl⟩))
  go_ret
  exact ⟨rfl, rfl⟩

/-- Fewer than six bytes. -/
theorem walk_short (x : Addr) (n cap : Nat) (f : Nat → Int) (k : Nat) (hn : n < 6) (hk : k ≤ n) (w : World) (hcell : ∀ j, j < n → w.cell? (x.add j) = some (.int .u8 (f j))) :
    Calls Try.prog 4 #[.slice (some x) n cap, .int .i64 k] w fun e w' => e = .returned (.bool true) ∧ Below w.heap.size w w' := by
  have h1 : ¬ (1048576 : Int) < (n : Int) := by omega
  have h2 : ¬ (k : Int) < 0 := by omega
  have h3 : ¬ (n : Int) < (k : Int) := by omega
  have hmk := made n (by omega)
  obtain ⟨w2, hcp, hc2, hb2, hs2⟩ := copied x n cap f w hcell
  clear hc2 hcell
  go_enter Try.func4, Try.ntmps4
  go_wp2_with (first | (go_at_call 9; refine (bytes9 _ _ _ _ (by omega) _).mono ?_; rintro e w' ⟨rfl, rfl⟩) | (go_at_call 8; refine (zz_short _ _ _ (by omega) _).mono ?_; rintro e w' ⟨rfl, rfl⟩))
  go_ret
  exact ⟨rfl, hb2⟩

/-- Six bytes or more, cut ahead of the sixth. -/
theorem walk_cut (x : Addr) (n cap : Nat) (f : Nat → Int) (hf : ∀ j, 0 ≤ f j ∧ f j ≤ 255) (k : Nat) (hn6 : 6 ≤ n) (hn : n ≤ 1048576) (hk : k < 6) (w : World) (hcell : ∀ j, j < n → w.cell? (x.add j) = some (.int .u8 (f j))) :
    Calls Try.prog 4 #[.slice (some x) n cap, .int .i64 k] w fun e w' => e = .returned (.bool true) ∧ Below w.heap.size w w' := by
  have h1 : ¬ (1048576 : Int) < (n : Int) := by omega
  have h2 : ¬ (k : Int) < 0 := by omega
  have h3 : ¬ (n : Int) < (k : Int) := by omega
  have hmk := made n (by omega)
  obtain ⟨w2, hcp, hc2, hb2, hs2⟩ := copied x n cap f w hcell
  have K := zz_long w.heap.size 0 n n hn6 (Nat.le_refl _) f hf w2 (fun j hj => by rw [Nat.zero_add]; exact hc2 j (by omega))
  generalize cu (f 0) (f 1) (f 2) (f 3) (f 4) (f 5) = r at K
  have H : Hid (Calls Try.prog 8 #[.slice (some ⟨w.heap.size, 0, none⟩) n n] w2 fun e w' => e = .returned (.int .i32 r) ∧ w' = w2) := K
  clear K hc2 hcell hf
  go_enter Try.func4, Try.ntmps4
  go_wp2_with (go_at_call 9; refine (bytes9 _ _ _ _ (by omega) _).mono ?_; rintro e w' ⟨rfl, rfl⟩)
  refine H.out.mono ?_
  rintro e w' ⟨rfl, rfl⟩
  go_wp2_with (go_at_call 8; refine (zz_short _ _ _ (by omega) _).mono ?_; rintro e w' ⟨rfl, rfl⟩)
  go_ret
  exact ⟨rfl, hb2⟩

/-- Six bytes or more, cut behind the sixth. -/
theorem walk_whole (x : Addr) (n cap : Nat) (f : Nat → Int) (hf : ∀ j, 0 ≤ f j ∧ f j ≤ 255) (k : Nat) (hn : n ≤ 1048576) (hk : 6 ≤ k) (hkn : k ≤ n) (w : World) (hcell : ∀ j, j < n → w.cell? (x.add j) = some (.int .u8 (f j))) :
    Calls Try.prog 4 #[.slice (some x) n cap, .int .i64 k] w fun e w' => e = .returned (.bool true) ∧ Below w.heap.size w w' := by
  have h1 : ¬ (1048576 : Int) < (n : Int) := by omega
  have h2 : ¬ (k : Int) < 0 := by omega
  have h3 : ¬ (n : Int) < (k : Int) := by omega
  have h4 : (2 : Int) ≤ (n : Int) := by omega
  have h5 : ¬ (k : Int) < 6 := by omega
  have hmk := made n (by omega)
  obtain ⟨w2, hcp, hc2, hb2, hs2⟩ := copied x n cap f w hcell
  have K := zz_long w.heap.size 0 n n (by omega) (Nat.le_refl _) f hf w2 (fun j hj => by rw [Nat.zero_add]; exact hc2 j (by omega))
  have L := zz_long w.heap.size 0 k n hk hkn f hf w2 (fun j hj => by rw [Nat.zero_add]; exact hc2 j (by omega))
  have hr := cu_range (f 0) (f 1) (f 2) (f 3) (f 4) (f 5)
  have ho : cu (f 0) (f 1) (f 2) (f 3) (f 4) (f 5) = -1 ∨ (f 0 = 92 ∧ f 1 = 117) := by
    unfold cu
    split
    · right; assumption
    · left; rfl
  have c0 := hc2 0 (by omega)
  have c1 := hc2 1 (by omega)
  generalize cu (f 0) (f 1) (f 2) (f 3) (f 4) (f 5) = r at K L hr ho
  generalize f 0 = a0 at c0 ho
  generalize f 1 = a1 at c1 ho
  obtain ⟨hr1, hr2⟩ := hr
  have H : Hid (Calls Try.prog 8 #[.slice (some ⟨w.heap.size, 0, none⟩) n n] w2 fun e w' => e = .returned (.int .i32 r) ∧ w' = w2) := K
  have HL : Hid (Calls Try.prog 8 #[.slice (some ⟨w.heap.size, 0, none⟩) k n] w2 fun e w' => e = .returned (.int .i32 r) ∧ w' = w2) := L
  clear K L hc2 hcell hf f
  rcases ho with ho | ⟨rfl, rfl⟩
  · subst ho
    by_cases e0 : a0 = 92
    · subst e0
      by_cases e1 : a1 = 117
      all_goals
        go_enter Try.func4, Try.ntmps4
        go_wp2_with (go_at_call 9; refine (bytes9 _ _ _ _ (by omega) _).mono ?_; rintro e w' ⟨rfl, rfl⟩)
        refine H.out.mono ?_
        rintro e w' ⟨rfl, rfl⟩
        go_wp2_with fail
        refine HL.out.mono ?_
        rintro e w' ⟨rfl, rfl⟩
        go_wp2_with fail
        go_ret
        exact ⟨rfl, hb2⟩
    · have e0' : (a0 == 92) = false := by simpa using e0
      go_enter Try.func4, Try.ntmps4
      go_wp2_with (go_at_call 9; refine (bytes9 _ _ _ _ (by omega) _).mono ?_; rintro e w' ⟨rfl, rfl⟩)
      refine H.out.mono ?_
      rintro e w' ⟨rfl, rfl⟩
      go_wp2_with fail
      refine HL.out.mono ?_
      rintro e w' ⟨rfl, rfl⟩
      go_wp2_with fail
      go_ret
      exact ⟨rfl, hb2⟩
  · go_enter Try.func4, Try.ntmps4
    go_wp2_with (go_at_call 9; refine (bytes9 _ _ _ _ (by omega) _).mono ?_; rintro e w' ⟨rfl, rfl⟩)
    refine H.out.mono ?_
    rintro e w' ⟨rfl, rfl⟩
    go_wp2_with fail
    refine HL.out.mono ?_
    rintro e w' ⟨rfl, rfl⟩
    go_wp2_with fail
    all_goals
      go_ret
      exact ⟨rfl, hb2⟩

theorem walk (a0 : Option Addr) (len0 cap0 : Nat) (z0 : List Int) (a1 : Int) (w : World) (w0 : IsRow .u8 w a0 len0 cap0 z0) (w1 : (Lit.int .i64 a1).wf = true) :
    Calls Try.prog 4 #[.slice a0 len0 cap0, .int .i64 a1] w fun e w' => e = .returned (.bool true) ∧ Below w.heap.size w w' := by
  by_cases hn : len0 ≤ 1048576
  · by_cases hk : a1 < 0 ∨ (len0 : Int) < a1
    · refine (walk_nocut a0 len0 cap0 a1 hn hk w).mono ?_
      rintro e w' ⟨he, rfl⟩
      exact ⟨he, Below.refl _ _⟩
    · obtain ⟨k, rfl⟩ := Int.eq_ofNat_of_zero_le (show 0 ≤ a1 by omega)
      have hkn : k ≤ len0 := by omega
      rcases w0 with ⟨rfl, rfl, rfl, rfl⟩ | ⟨x, rfl, hl, hm, hz, hcell, hwz⟩
      · have hk0 : k = 0 := by omega
        subst hk0
        refine (walk_nil w).mono ?_
        rintro e w' ⟨he, rfl⟩
        exact ⟨he, Below.refl _ _⟩
      · have hc : ∀ j, j < len0 → w.cell? (x.add j) = some (.int .u8 (z0.getD j 0)) := fun j hj => hcell j (by omega)
        have hf := range_of_wf hwz
        by_cases hn6 : len0 < 6
        · exact walk_short x len0 cap0 (fun j => z0.getD j 0) k hn6 hkn w hc
        · by_cases hk6 : k < 6
          · exact walk_cut x len0 cap0 (fun j => z0.getD j 0) hf k (by omega) hn hk6 w hc
          · exact walk_whole x len0 cap0 (fun j => z0.getD j 0) hf k hn (by omega) hkn w hc
  · refine (walk_long a0 len0 cap0 a1 (by omega) w).mono ?_
    rintro e w' ⟨he, rfl⟩
    exact ⟨he, Below.refl _ _⟩

/-! ### THE ROW's STEP: WRITTEN OUT: LEAVE IT -/
set_option maxRecDepth 100000 in
theorem lifted (os : Os) (started : os.Started) (H : Type) (enc : TypeId × Value → H) :
    ReturnsInHanded {} Try.checked os 4 .any (Rows.fnCodeUnitReadsOnlyTheFirstSixBytesSpec.pre6 enc Try.prog Try.f4 Rows.fnCodeUnitReadsOnlyTheFirstSixBytesRow.domain false) (Rows.fnCodeUnitReadsOnlyTheFirstSixBytesSpec.post enc Try.prog Try.f4 false true false false) := by
  refine returnsInHanded_of_change (C := Try.checked) own started (by kernel_rfl) Try.func4
    (ChangeSpec.witness6 (enc := enc) (C := Try.checked) false ⟨#[], #[.slice none 0 0, .int .i64 0], []⟩ 8 (by kernel_rfl) (by kernel_rfl) (by kernel_rfl) (by kernel_rfl)) ?_
  intro W base args ds gs before hval0 hW hcnd _
  have hval : ∀ (j : Nat) t v, Try.f4.params[j]? = some t → args[j]? = some v → Value.okWide Try.prog W .any base t v := hval0
  have hW' := hW
  obtain ⟨p, q, hA0, hV, rfl, hfz, hnd⟩ := hW
  have hA : DataW.TrodAll enc Try.prog W 0 (fun _ => true) true Try.f4.params.toList args.toList ds p := hA0
  rw [Try.params4] at hA hval
  obtain ⟨v0, vs0, d0, ds0, p0, q0, hargs, rfl, rfl, h0, r0⟩ := trodAll_cons hA
  obtain ⟨v1, vs1, d1, ds1, p1, q1, rfl, rfl, rfl, h1, r1⟩ := trodAll_cons r0
  obtain ⟨rfl, rfl, rfl⟩ := trodAll_nil r1
  obtain rfl : args = #[v0, v1] := by cases args; simp_all
  obtain ⟨rfl, rfl⟩ := trodVars_none hV
  obtain ⟨a0, len0, cap0, rfl⟩ := okWide_slice Try.underlying22 (hval 0 22 v0 rfl rfl)
  have k0 := h0
  have lt0 : ∀ x ∈ p0, x.block < W.heap.size := by obtain ⟨m, hm⟩ := k0; exact DataW.trod_lt m _ _ _ hm
  obtain ⟨z0, w0⟩ : ∃ zs, IsRow .u8 W a0 len0 cap0 zs := by
    obtain ⟨fuel, hf⟩ := h0
    rcases open_ints Try.underlying22 Try.underlying5 (by kernel_rfl) hf with ⟨hcs, _⟩ | ⟨x, l, c, zs, hcs, _, hl, hm, hz, _, hcell, hwz⟩
    · simp [Value.cells] at hcs
      obtain ⟨rfl, rfl, rfl⟩ := hcs
      exact ⟨[], .inl ⟨rfl, rfl, rfl, rfl⟩⟩
    · simp [Value.cells] at hcs
      obtain ⟨rfl, rfl, rfl⟩ := hcs
      exact ⟨zs, .inr ⟨_, rfl, hl, hm, by simpa using hz, hcell, hwz⟩⟩
  obtain ⟨a1, rfl, rfl, rfl, w1⟩ := open_int Try.underlying3 (hval 1 3 v1 rfl rfl) h1
  clear hA0 hval0
  refine (walk a0 len0 cap0 z0 a1 W w0 w1).mono fun e W' ⟨he, bel⟩ => ?_
  subst he
  exact ⟨_, rfl, _, _, _, [], _, [], hW', trodAll_mk1 (shut_bool Try.underlying4 _), (trodAll_cons_mk (Below.trod laidOut (by kernel_rfl) (of_decide_eq_true (by kernel_rfl)) k0 bel lt0) (trodAll_cons_mk (shut_int Try.underlying3 w1) trodAll_mk0)), rfl, bel.frame _, fun h => by cases h⟩

theorem over : Rows.fnCodeUnitReadsOnlyTheFirstSixBytesRow.holds Try.pinned (OpenSpec.ofChange Rows.fnCodeUnitReadsOnlyTheFirstSixBytesSpec) :=
  OpenClaim.holds_of_wide 4 Try.f4 rfl rfl rfl rfl rfl rfl rfl ⟨rfl, rfl, rfl, rfl, rfl⟩ rfl rfl rfl rfl rfl (by kernel_rfl) Try.func4 (by kernel_rfl)
    (of_decide_eq_true (by kernel_rfl)) (by unfold Func.isWrapper; first | (rw [if_pos (by decide +kernel)]; kernel_rfl) | (rw [if_neg (by decide +kernel)]; exact ⟨rfl, rfl⟩))
    (fun os started H enc _ => lifted os started H enc)

/-- ████ THE STATEMENT ████ -/
theorem proved : Rows.FnCodeUnitReadsOnlyTheFirstSixBytesSaid := over
#print axioms proved
end Go.Proofs.Qxb6618090a.fnCodeUnitReadsOnlyTheFirstSixBytes

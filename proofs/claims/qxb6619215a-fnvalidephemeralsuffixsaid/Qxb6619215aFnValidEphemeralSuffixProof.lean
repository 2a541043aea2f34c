/-
  THE SHELL OF A PROOF OF 'Rows.FnValidEphemeralSuffixSaid' ('example.com/skirnir/skirnir/zzlaws_internal_names_b1.FnValidEphemeralSuffix'), WRITTEN BY PROGRAM (proof-skeleton.mjs) off the guide's own print for that function. Not trusted: Lean checks it.
  THE WALK IS FILLED IN BY HAND. ALL ELSE IS THE GUIDE's TEMPLATE (howto/template/XProofs.lean) at this function's number and types: leave it.
-/
import Derived.Test.Qxb6619215aRows
import Derived.WalkKit
import Derived.ProofKit
import Derived.OpenShut
import Derived.ShutString
import Derived.WalkSpells
import Derived.WalkLawsBesides
import Derived.Test.Qxb6619215aValid
namespace Go.Proofs.Qxb6619215a.fnValidEphemeralSuffix
open Go.ChangeShapes Go.WideShapes Go.ChangeAt Go.RowKit
open Go.ChangeMaps (open_string shut_string)
set_option linter.unusedVariables false      -- a walk need not use every 'w<i>' (that an integer argument fits its kind)

theorem own : ownKnob Try.prog.godebug = none := by kernel_rfl

/-! ### STEP 1: THE WALK -/
open Plain

theorem data_eph (s : ByteArray) : (s ++ { data := #[35, 101, 112, 104, 101, 109, 101, 114, 97, 108] }).data.toList = s.data.toList ++ eph := by
  simp
  rfl
theorem size_eph (s : ByteArray) : (s ++ { data := #[35, 101, 112, 104, 101, 109, 101, 114, 97, 108] }).size = s.size + 10 := by
  rw [ByteArray.size_append]
  rfl

theorem law_want (s : ByteArray) : validS (s ++ { data := #[35, 101, 112, 104, 101, 109, 101, 114, 97, 108] }) = (decide (1 ≤ s.size) && (decide (s.size ≤ 54) && allS s)) := by
  unfold validS
  rw [data_eph, eph_want]
  rfl
theorem law_plain (s : ByteArray) : validS (s ++ { data := #[35, 101, 112, 104, 101, 109, 101, 114, 97, 108] }) = (validS s && (decide (s.size ≤ 54) && !hashS s)) := by
  unfold validS
  rw [data_eph, eph_plain]
  rfl

theorem bytes9 (s : ByteArray) (hs : s.size ≤ 1048576) (w : World) :
    Calls Try.prog 9 #[.string s] w fun e w' => e = .returned (.bool true) ∧ w' = w := by
  go_enter Try.func9, Try.ntmps9
  go_wp2
  go_ret
  exact ⟨rfl, rfl⟩
theorem bytes9_no (s : ByteArray) (hs : 1048576 < s.size) (w : World) :
    Calls Try.prog 9 #[.string s] w fun e w' => e = .returned (.bool false) ∧ w' = w := by
  go_enter Try.func9, Try.ntmps9
  go_wp2
  go_ret
  exact ⟨rfl, rfl⟩

/-- Too long: true at once. -/
theorem walk_long (s : ByteArray) (h : 1048576 < s.size) (w : World) :
    Calls Try.prog 4 #[.string s] w fun e w' => e = .returned (.bool true) ∧ w' = w := by
  go_enter Try.func4, Try.ntmps4
  go_wp2_with (go_at_call 9; refine (bytes9_no s h _).mono ?_; rintro e w' ⟨rfl, rfl⟩)
  go_ret
  exact ⟨rfl, rfl⟩

set_option maxHeartbeats 4000000 in
theorem walk_core (s : ByteArray) (hs : s.size ≤ 1048576) (v p a h : Bool)
    (HE : Hid (∀ w : World, Calls Try.prog 8 #[.string (s ++ { data := #[35, 101, 112, 104, 101, 109, 101, 114, 97, 108] })] w fun e w' => e = .returned (.bool v) ∧ Grown w w'))
    (HP : Hid (∀ w : World, Calls Try.prog 8 #[.string s] w fun e w' => e = .returned (.bool p) ∧ Grown w w'))
    (HA : Hid (∀ w : World, Calls Try.prog 10 #[.string s] w fun e w' => e = .returned (.bool a) ∧ w' = w))
    (HH : Hid (∀ w : World, Calls Try.prog 11 #[.string s] w fun e w' => e = .returned (.bool h) ∧ w' = w))
    (l1 : v = (decide (1 ≤ s.size) && (decide (s.size ≤ 54) && a))) (l2 : v = (p && (decide (s.size ≤ 54) && !h))) (w : World) :
    Calls Try.prog 4 #[.string s] w fun e w' => e = .returned (.bool true) ∧ Grown w w' := by
  have hd : decide ((1048576 : Int) < (s.size : Int)) = false := decide_eq_false (by omega)
  by_cases h1 : 1 ≤ s.size
  · have h1' : (1 : Int) ≤ (s.size : Int) := by omega
    rw [decide_eq_true h1] at l1
    by_cases h54 : s.size ≤ 54
    · have h54' : (s.size : Int) ≤ 54 := by omega
      rw [decide_eq_true h54] at l1 l2
      cases v <;> cases p <;> cases a <;> cases h
      all_goals first
        | (exfalso; simp at l1; done)
        | (exfalso; simp at l2; done)
        | skip
      all_goals
        clear l1 l2
        go_enter Try.func4, Try.ntmps4
        go_wp2_with (go_at_call 9; refine (bytes9 s hs _).mono ?_; rintro e w' ⟨rfl, rfl⟩)
        refine (HE.out _).mono ?_
        rintro e w1 ⟨rfl, hg1⟩
        have HG1 : Hid (Grown _ w1) := hg1
        clear hg1
        go_wp2_with fail
        refine (HP.out _).mono ?_
        rintro e w2 ⟨rfl, hg2⟩
        have HG2 : Hid (Grown w1 w2) := hg2
        clear hg2
        go_wp2_with (first | (go_at_call 10; refine (HA.out _).mono ?_; rintro e w' ⟨rfl, rfl⟩) | (go_at_call 11; refine (HH.out _).mono ?_; rintro e w' ⟨rfl, rfl⟩))
        all_goals
          go_ret
          exact ⟨ret_bool (by simp), grown_trans HG1.out HG2.out⟩
    · have h54' : decide ((s.size : Int) ≤ 54) = false := decide_eq_false (by omega)
      rw [decide_eq_false h54] at l1 l2
      cases v <;> cases p
      all_goals first
        | (exfalso; simp at l1; done)
        | skip
      all_goals
        clear l1 l2
        go_enter Try.func4, Try.ntmps4
        go_wp2_with (go_at_call 9; refine (bytes9 s hs _).mono ?_; rintro e w' ⟨rfl, rfl⟩)
        refine (HE.out _).mono ?_
        rintro e w1 ⟨rfl, hg1⟩
        have HG1 : Hid (Grown _ w1) := hg1
        clear hg1
        go_wp2_with fail
        refine (HP.out _).mono ?_
        rintro e w2 ⟨rfl, hg2⟩
        have HG2 : Hid (Grown w1 w2) := hg2
        clear hg2
        go_wp2_with (first | (go_at_call 10; refine (HA.out _).mono ?_; rintro e w' ⟨rfl, rfl⟩) | (go_at_call 11; refine (HH.out _).mono ?_; rintro e w' ⟨rfl, rfl⟩))
        all_goals
          go_ret
          exact ⟨ret_bool (by simp), grown_trans HG1.out HG2.out⟩
  · have h1' : decide ((1 : Int) ≤ (s.size : Int)) = false := decide_eq_false (by omega)
    have h54' : (s.size : Int) ≤ 54 := by omega
    rw [decide_eq_false h1] at l1
    rw [decide_eq_true (show s.size ≤ 54 by omega)] at l2
    cases v <;> cases p <;> cases h
    all_goals first
      | (exfalso; simp at l1; done)
      | (exfalso; simp at l2; done)
      | skip
    all_goals
      clear l1 l2
      go_enter Try.func4, Try.ntmps4
      go_wp2_with (go_at_call 9; refine (bytes9 s hs _).mono ?_; rintro e w' ⟨rfl, rfl⟩)
      refine (HE.out _).mono ?_
      rintro e w1 ⟨rfl, hg1⟩
      have HG1 : Hid (Grown _ w1) := hg1
      clear hg1
      go_wp2_with fail
      refine (HP.out _).mono ?_
      rintro e w2 ⟨rfl, hg2⟩
      have HG2 : Hid (Grown w1 w2) := hg2
      clear hg2
      go_wp2_with (first | (go_at_call 10; refine (HA.out _).mono ?_; rintro e w' ⟨rfl, rfl⟩) | (go_at_call 11; refine (HH.out _).mono ?_; rintro e w' ⟨rfl, rfl⟩))
      all_goals
        go_ret
        exact ⟨ret_bool (by simp), grown_trans HG1.out HG2.out⟩

theorem walk (a0 : ByteArray) (w0 : a0.size ≤ maxLen) (w : World) :
    Calls Try.prog 4 #[.string a0] w fun e w' => e = .returned (.bool true) ∧ Grown w w' := by
  by_cases h : 1048576 < a0.size
  · refine (walk_long a0 h w).mono ?_
    rintro e w' ⟨he, rfl⟩
    exact ⟨he, Grown.refl _⟩
  · have hs : a0.size ≤ 1048576 := by omega
    exact walk_core a0 hs _ _ _ _ (fun w => validWalk _ (by rw [size_eph]; omega) w) (fun w => validWalk a0 (by omega) w) (fun w => allAllowed a0 hs w) (fun w => zzHash a0 hs w) (law_want a0) (law_plain a0) w

/-! ### THE ROW's STEP: WRITTEN OUT: LEAVE IT -/
set_option maxRecDepth 100000 in
theorem lifted (os : Os) (started : os.Started) (H : Type) (enc : TypeId × Value → H) :
    ReturnsInHanded {} Try.checked os 4 .any (Rows.fnValidEphemeralSuffixSpec.pre6 enc Try.prog Try.f4 Rows.fnValidEphemeralSuffixRow.domain false) (Rows.fnValidEphemeralSuffixSpec.post enc Try.prog Try.f4 false true false false) := by
  refine returnsInHanded_of_change (C := Try.checked) own started (by kernel_rfl) Try.func4
    (ChangeSpec.witness6 (enc := enc) (C := Try.checked) false ⟨#[], #[.string ByteArray.empty], []⟩ 8 (by kernel_rfl) (by kernel_rfl) (by kernel_rfl) (by kernel_rfl)) ?_
  intro W base args ds gs before hval0 hW hcnd _
  have hval : ∀ (j : Nat) t v, Try.f4.params[j]? = some t → args[j]? = some v → Value.okWide Try.prog W .any base t v := hval0
  have hW' := hW
  obtain ⟨p, q, hA0, hV, rfl, hfz, hnd⟩ := hW
  have hA : DataW.TrodAll enc Try.prog W 0 (fun _ => true) true Try.f4.params.toList args.toList ds p := hA0
  rw [Try.params4] at hA hval
  obtain ⟨v0, vs0, d0, ds0, p0, q0, hargs, rfl, rfl, h0, r0⟩ := trodAll_cons hA
  obtain ⟨rfl, rfl, rfl⟩ := trodAll_nil r0
  obtain rfl : args = #[v0] := by cases args; simp_all
  obtain ⟨rfl, rfl⟩ := trodVars_none hV
  obtain ⟨a0, rfl, rfl, rfl, w0⟩ := open_string Try.underlying9 (hval 0 9 v0 rfl rfl) h0
  clear hA0 hval0
  simp only [List.append_nil] at hW'
  refine (walk a0 w0 W).mono fun e W' ⟨he, hg⟩ => ?_
  subst he
  exact ⟨_, rfl, post_of_same (pa := []) (pv := []) hW' (fun _ _ _ => (trodAll_cons_mk (shut_bool Try.underlying4 _) trodAll_mk0)) (fun sp _ => (trodAll_cons_mk (shut_string Try.underlying9 w0) trodAll_mk0)) (fun _ _ => rfl) rfl
    (hg.frame _) hg.2.1 (ok_one (by kernel_rfl) rfl (okWide_bool_mk Try.underlying4 _))⟩

theorem over : Rows.fnValidEphemeralSuffixRow.holds Try.pinned (OpenSpec.ofChange Rows.fnValidEphemeralSuffixSpec) :=
  OpenClaim.holds_of_wide 4 Try.f4 rfl rfl rfl rfl rfl rfl rfl ⟨rfl, rfl, rfl, rfl, rfl⟩ rfl rfl rfl rfl rfl (by kernel_rfl) Try.func4 (by kernel_rfl)
    (of_decide_eq_true (by kernel_rfl)) (by unfold Func.isWrapper; first | (rw [if_pos (by decide +kernel)]; kernel_rfl) | (rw [if_neg (by decide +kernel)]; exact ⟨rfl, rfl⟩))
    (fun os started H enc _ => lifted os started H enc)

/-- ████ THE STATEMENT ████ -/
theorem proved : Rows.FnValidEphemeralSuffixSaid :=
  over
#print axioms proved
end Go.Proofs.Qxb6619215a.fnValidEphemeralSuffix

/-
  THE SHELL OF A PROOF OF 'Rows.FnValidCutNoHashSaid' ('example.com/skirnir/skirnir/zzlaws_internal_names_b1.FnValidCutNoHash'), WRITTEN BY PROGRAM (proof-skeleton.mjs) off the guide's own print for that function. Not trusted: Lean checks it.
  THE WALK IS FILLED IN BY HAND. ALL ELSE IS THE GUIDE's TEMPLATE (howto/template/XProofs.lean) at this function's number and types: leave it.
-/
import Derived.Test.Qxb6619215aRows
import Derived.WalkKit
import Derived.ProofKit
import Derived.OpenShut
import Derived.ShutString
import Derived.WalkSpells
import Derived.WalkLawsBesides
import Derived.Test.Qxb6619215aValid
namespace Go.Proofs.Qxb6619215a.fnValidCutNoHash
open Go.ChangeShapes Go.WideShapes Go.ChangeAt Go.RowKit
open Go.ChangeMaps (open_string shut_string)
set_option linter.unusedVariables false      -- a walk need not use every 'w<i>' (that an integer argument fits its kind)

theorem own : ownKnob Try.prog.godebug = none := by kernel_rfl

/-! ### STEP 1: THE WALK -/
open Plain

theorem law_want (s : ByteArray) (h : hashS s = false) (h1 : 1 ≤ s.size) : validS s = (decide (s.size ≤ 64) && allS s) := by
  unfold validS
  rw [cut_want _ h h1]
  rfl
theorem law_two (s : ByteArray) (i : Nat) (h : hashS s = false) (h1 : 1 ≤ i) (h2 : i < s.size) : validS s = (decide (s.size ≤ 64) && (validS (s.extract 0 i) && validS (s.extract i s.size))) := by
  unfold validS
  rw [cut_two _ i h h1 h2, data_first, data_rest]
  rfl

theorem bytes12 (s : ByteArray) (i : Int) (hs : s.size ≤ 1048576) (w : World) :
    Calls Try.prog 12 #[.string s, .int .i64 i] w fun e w' => e = .returned (.bool true) ∧ w' = w := by
  go_enter Try.func12, Try.ntmps12
  go_wp2
  go_ret
  exact ⟨rfl, rfl⟩
theorem bytes12_no (s : ByteArray) (i : Int) (hs : 1048576 < s.size) (w : World) :
    Calls Try.prog 12 #[.string s, .int .i64 i] w fun e w' => e = .returned (.bool false) ∧ w' = w := by
  go_enter Try.func12, Try.ntmps12
  go_wp2
  go_ret
  exact ⟨rfl, rfl⟩

/-- Too long: true at once. -/
theorem walk_long (s : ByteArray) (i : Int) (h : 1048576 < s.size) (w : World) :
    Calls Try.prog 5 #[.string s, .int .i64 i] w fun e w' => e = .returned (.bool true) ∧ w' = w := by
  go_enter Try.func5, Try.ntmps5
  go_wp2_with (go_at_call 12; refine (bytes12_no s i h _).mono ?_; rintro e w' ⟨rfl, rfl⟩)
  go_ret
  exact ⟨rfl, rfl⟩

/-- No such cut: true at once. -/
theorem walk_nocut (s : ByteArray) (i : Int) (hs : s.size ≤ 1048576) (h : i < 1 ∨ (s.size : Int) ≤ i) (w : World) :
    Calls Try.prog 5 #[.string s, .int .i64 i] w fun e w' => e = .returned (.bool true) ∧ w' = w := by
  by_cases h1 : i < 1
  all_goals
    go_enter Try.func5, Try.ntmps5
    go_wp2_with (go_at_call 12; refine (bytes12 s i hs _).mono ?_; rintro e w' ⟨rfl, rfl⟩)
    go_ret
    exact ⟨rfl, rfl⟩

/-- A hash in it: true at once. -/
theorem walk_hash (s : ByteArray) (i : Nat) (hs : s.size ≤ 1048576) (h1 : 1 ≤ i) (h2 : i < s.size) (HH : Hid (∀ w : World, Calls Try.prog 11 #[.string s] w fun e w' => e = .returned (.bool true) ∧ w' = w)) (w : World) :
    Calls Try.prog 5 #[.string s, .int .i64 i] w fun e w' => e = .returned (.bool true) ∧ w' = w := by
  have k1 : ¬ (i : Int) < 1 := by omega
  have k2 : ¬ (s.size : Int) ≤ (i : Int) := by omega
  go_enter Try.func5, Try.ntmps5
  go_wp2_with (first | (go_at_call 12; refine (bytes12 s i hs _).mono ?_; rintro e w' ⟨rfl, rfl⟩) | (go_at_call 11; refine (HH.out _).mono ?_; rintro e w' ⟨rfl, rfl⟩))
  go_ret
  exact ⟨rfl, rfl⟩

set_option maxHeartbeats 4000000 in
theorem walk_core (s : ByteArray) (i : Nat) (hs : s.size ≤ 1048576) (h1 : 1 ≤ i) (h2 : i < s.size) (v l r a : Bool)
    (HH : Hid (∀ w : World, Calls Try.prog 11 #[.string s] w fun e w' => e = .returned (.bool false) ∧ w' = w))
    (HV : Hid (∀ w : World, Calls Try.prog 8 #[.string s] w fun e w' => e = .returned (.bool v) ∧ Grown w w'))
    (HL : Hid (∀ w : World, Calls Try.prog 8 #[.string (s.extract 0 i)] w fun e w' => e = .returned (.bool l) ∧ Grown w w'))
    (HR : Hid (∀ w : World, Calls Try.prog 8 #[.string (s.extract i s.size)] w fun e w' => e = .returned (.bool r) ∧ Grown w w'))
    (HA : Hid (∀ w : World, Calls Try.prog 10 #[.string s] w fun e w' => e = .returned (.bool a) ∧ w' = w))
    (l1 : v = (decide (s.size ≤ 64) && a)) (l2 : v = (decide (s.size ≤ 64) && (l && r))) (w : World) :
    Calls Try.prog 5 #[.string s, .int .i64 i] w fun e w' => e = .returned (.bool true) ∧ Grown w w' := by
  have hd : decide ((1048576 : Int) < (s.size : Int)) = false := decide_eq_false (by omega)
  have k1 : decide ((i : Int) < 1) = false := decide_eq_false (by omega)
  have k1' : ¬ (i : Int) < 1 := by omega
  have k2 : ¬ (s.size : Int) ≤ (i : Int) := by omega
  by_cases h64 : s.size ≤ 64
  · have h64' : (s.size : Int) ≤ 64 := by omega
    rw [decide_eq_true h64] at l1 l2
    cases v <;> cases l <;> cases r <;> cases a
    all_goals first
      | (exfalso; simp at l1; done)
      | (exfalso; simp at l2; done)
      | skip
    all_goals
      clear l1 l2
      go_enter Try.func5, Try.ntmps5
      go_wp2_with (first | (go_at_call 12; refine (bytes12 s i hs _).mono ?_; rintro e w' ⟨rfl, rfl⟩) | (go_at_call 11; refine (HH.out _).mono ?_; rintro e w' ⟨rfl, rfl⟩))
      refine (HV.out _).mono ?_
      rintro e w1 ⟨rfl, hg1⟩
      have HG1 : Hid (Grown _ w1) := hg1
      clear hg1
      go_wp2_with fail
      refine (HL.out _).mono ?_
      rintro e w2 ⟨rfl, hg2⟩
      have HG2 : Hid (Grown w1 w2) := hg2
      clear hg2
      go_wp2_with fail
      refine (HR.out _).mono ?_
      rintro e w3 ⟨rfl, hg3⟩
      have HG3 : Hid (Grown w2 w3) := hg3
      clear hg3
      go_wp2_with (go_at_call 10; refine (HA.out _).mono ?_; rintro e w' ⟨rfl, rfl⟩)
      all_goals
        go_ret
        exact ⟨ret_bool (by simp), grown_trans HG1.out (grown_trans HG2.out HG3.out)⟩
  · have h64' : decide ((s.size : Int) ≤ 64) = false := decide_eq_false (by omega)
    rw [decide_eq_false h64] at l1 l2
    cases v
    all_goals first
      | (exfalso; simp at l1; done)
      | skip
    all_goals
      clear l1 l2
      go_enter Try.func5, Try.ntmps5
      go_wp2_with (first | (go_at_call 12; refine (bytes12 s i hs _).mono ?_; rintro e w' ⟨rfl, rfl⟩) | (go_at_call 11; refine (HH.out _).mono ?_; rintro e w' ⟨rfl, rfl⟩))
      refine (HV.out _).mono ?_
      rintro e w1 ⟨rfl, hg1⟩
      have HG1 : Hid (Grown _ w1) := hg1
      clear hg1
      go_wp2_with fail
      refine (HL.out _).mono ?_
      rintro e w2 ⟨rfl, hg2⟩
      have HG2 : Hid (Grown w1 w2) := hg2
      clear hg2
      go_wp2_with fail
      refine (HR.out _).mono ?_
      rintro e w3 ⟨rfl, hg3⟩
      have HG3 : Hid (Grown w2 w3) := hg3
      clear hg3
      go_wp2_with (go_at_call 10; refine (HA.out _).mono ?_; rintro e w' ⟨rfl, rfl⟩)
      all_goals
        go_ret
        exact ⟨ret_bool (by simp), grown_trans HG1.out (grown_trans HG2.out HG3.out)⟩

theorem walk (a0 : ByteArray) (a1 : Int) (w0 : a0.size ≤ maxLen) (w1 : (Lit.int .i64 a1).wf = true) (w : World) :
    Calls Try.prog 5 #[.string a0, .int .i64 a1] w fun e w' => e = .returned (.bool true) ∧ Grown w w' := by
  by_cases h : 1048576 < a0.size
  · refine (walk_long a0 a1 h w).mono ?_
    rintro e w' ⟨he, rfl⟩
    exact ⟨he, Grown.refl _⟩
  · have hs : a0.size ≤ 1048576 := by omega
    by_cases hk : a1 < 1 ∨ (a0.size : Int) ≤ a1
    · refine (walk_nocut a0 a1 hs hk w).mono ?_
      rintro e w' ⟨he, rfl⟩
      exact ⟨he, Grown.refl _⟩
    · obtain ⟨i, rfl⟩ := Int.eq_ofNat_of_zero_le (show 0 ≤ a1 by omega)
      have h1 : 1 ≤ i := by omega
      have h2 : i < a0.size := by omega
      have HH : ∀ w : World, Calls Try.prog 11 #[.string a0] w fun e w' => e = .returned (.bool (hashS a0)) ∧ w' = w := fun w => zzHash a0 hs w
      cases hb : hashS a0 with
      | true =>
        rw [hb] at HH
        refine (walk_hash a0 i hs h1 h2 HH w).mono ?_
        rintro e w' ⟨he, rfl⟩
        exact ⟨he, Grown.refl _⟩
      | false =>
        rw [hb] at HH
        exact walk_core a0 i hs h1 h2 _ _ _ _ HH (fun w => validWalk a0 (by omega) w) (fun w => validWalk _ (by simp; omega) w) (fun w => validWalk _ (by simp; omega) w) (fun w => allAllowed a0 hs w)
          (law_want a0 hb (by omega)) (law_two a0 i hb h1 h2) w

/-! ### THE ROW's STEP: WRITTEN OUT: LEAVE IT -/
set_option maxRecDepth 100000 in
theorem lifted (os : Os) (started : os.Started) (H : Type) (enc : TypeId × Value → H) :
    ReturnsInHanded {} Try.checked os 5 .any (Rows.fnValidCutNoHashSpec.pre6 enc Try.prog Try.f5 Rows.fnValidCutNoHashRow.domain false) (Rows.fnValidCutNoHashSpec.post enc Try.prog Try.f5 false true false false) := by
  refine returnsInHanded_of_change (C := Try.checked) own started (by kernel_rfl) Try.func5
    (ChangeSpec.witness6 (enc := enc) (C := Try.checked) false ⟨#[], #[.string ByteArray.empty, .int .i64 0], []⟩ 8 (by kernel_rfl) (by kernel_rfl) (by kernel_rfl) (by kernel_rfl)) ?_
  intro W base args ds gs before hval0 hW hcnd _
  have hval : ∀ (j : Nat) t v, Try.f5.params[j]? = some t → args[j]? = some v → Value.okWide Try.prog W .any base t v := hval0
  have hW' := hW
  obtain ⟨p, q, hA0, hV, rfl, hfz, hnd⟩ := hW
  have hA : DataW.TrodAll enc Try.prog W 0 (fun _ => true) true Try.f5.params.toList args.toList ds p := hA0
  rw [Try.params5] at hA hval
  obtain ⟨v0, vs0, d0, ds0, p0, q0, hargs, rfl, rfl, h0, r0⟩ := trodAll_cons hA
  obtain ⟨v1, vs1, d1, ds1, p1, q1, rfl, rfl, rfl, h1, r1⟩ := trodAll_cons r0
  obtain ⟨rfl, rfl, rfl⟩ := trodAll_nil r1
  obtain rfl : args = #[v0, v1] := by cases args; simp_all
  obtain ⟨rfl, rfl⟩ := trodVars_none hV
  obtain ⟨a0, rfl, rfl, rfl, w0⟩ := open_string Try.underlying9 (hval 0 9 v0 rfl rfl) h0
  obtain ⟨a1, rfl, rfl, rfl, w1⟩ := open_int Try.underlying3 (hval 1 3 v1 rfl rfl) h1
  clear hA0 hval0
  simp only [List.append_nil] at hW'
  refine (walk a0 a1 w0 w1 W).mono fun e W' ⟨he, hg⟩ => ?_
  subst he
  exact ⟨_, rfl, post_of_same (pa := []) (pv := []) hW' (fun _ _ _ => (trodAll_cons_mk (shut_bool Try.underlying4 _) trodAll_mk0)) (fun sp _ => (trodAll_cons_mk (shut_string Try.underlying9 w0) (trodAll_cons_mk (shut_int Try.underlying3 w1) trodAll_mk0))) (fun _ _ => rfl) rfl
    (hg.frame _) hg.2.1 (ok_one (by kernel_rfl) rfl (okWide_bool_mk Try.underlying4 _))⟩

theorem over : Rows.fnValidCutNoHashRow.holds Try.pinned (OpenSpec.ofChange Rows.fnValidCutNoHashSpec) :=
  OpenClaim.holds_of_wide 5 Try.f5 rfl rfl rfl rfl rfl rfl rfl ⟨rfl, rfl, rfl, rfl, rfl⟩ rfl rfl rfl rfl rfl (by kernel_rfl) Try.func5 (by kernel_rfl)
    (of_decide_eq_true (by kernel_rfl)) (by unfold Func.isWrapper; first | (rw [if_pos (by decide +kernel)]; kernel_rfl) | (rw [if_neg (by decide +kernel)]; exact ⟨rfl, rfl⟩))
    (fun os started H enc _ => lifted os started H enc)

/-- ████ THE STATEMENT ████ -/
theorem proved : Rows.FnValidCutNoHashSaid :=
  over
#print axioms proved
end Go.Proofs.Qxb6619215a.fnValidCutNoHash

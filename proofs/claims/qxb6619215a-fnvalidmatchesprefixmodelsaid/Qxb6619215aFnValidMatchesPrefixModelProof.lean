/-
  THE SHELL OF A PROOF OF 'Rows.FnValidMatchesPrefixModelSaid' ('example.com/skirnir/skirnir/zzlaws_internal_names_b1.FnValidMatchesPrefixModel'), WRITTEN BY PROGRAM (proof-skeleton.mjs) off the guide's own print for that function. Not trusted: Lean checks it.
  THE WALK IS FILLED IN BY HAND. ALL ELSE IS THE GUIDE's TEMPLATE (howto/template/XProofs.lean) at this function's number and types: leave it.
-/
import Derived.Test.Qxb6619215aRows
import Derived.WalkKit
import Derived.ProofKit
import Derived.OpenShut
import Derived.ShutString
import Derived.WalkSpells
import Derived.WalkLawsBesides
import Derived.Test.Qxb6619215aValid
namespace Go.Proofs.Qxb6619215a.fnValidMatchesPrefixModel
open Go.ChangeShapes Go.WideShapes Go.ChangeAt Go.RowKit
open Go.ChangeMaps (open_string shut_string)
set_option linter.unusedVariables false      -- a walk need not use every 'w<i>' (that an integer argument fits its kind)

theorem own : ownKnob Try.prog.godebug = none := by kernel_rfl

/-! ### STEP 1: THE WALK -/
open Plain

/-- The model at the place where the prefix ends. -/
theorem model_at (s : ByteArray) (k : Nat) (h : pre s.data.toList = k) :
    validS s = (decide (s.size ≤ 64) && (decide (1 ≤ k) && (decide (k = s.size) || ((s.extract k s.size).toList == [35, 101, 112, 104, 101, 109, 101, 114, 97, 108])))) := by
  unfold validS
  rw [valid_model]
  unfold model
  rw [h, ByteArray.toList_eq, data_rest]
  have e : s.data.toList.length = s.size := rfl
  rw [e]
  congr 3
  rw [Bool.eq_iff_iff, decide_eq_true_iff, beq_iff_eq]
  rfl

theorem hideM {p : Prop} (h : p) : Hid p := h

theorem pre_stop (s : ByteArray) (k : Nat) (hk : k < s.size) (h : (s.data.toList.take k).all okB = true) (hb : okI (s[k].toNat : Int) = false) : pre s.data.toList = k := by
  have hk' : k < s.data.toList.length := hk
  refine pre_of _ k (Nat.le_of_lt hk') h fun x r hd => ?_
  rw [List.drop_eq_getElem_cons hk'] at hd
  have hx : s.data.toList[k] = x := (List.cons.inj hd).1
  rw [← hx]
  exact hb
theorem pre_full (s : ByteArray) (k : Nat) (hk : ¬ k < s.size) (hk2 : k ≤ s.size) (h : (s.data.toList.take k).all okB = true) : pre s.data.toList = k := by
  have e : s.data.toList.length = s.size := rfl
  refine pre_of _ k (by omega) h fun x r hd => ?_
  have h2 := congrArg List.length hd
  simp at h2
  omega

theorem bytes6 (s : ByteArray) (hs : s.size ≤ 1048576) (w : World) :
    Calls Try.prog 6 #[.string s] w fun e w' => e = .returned (.bool true) ∧ w' = w := by
  go_enter Try.func6, Try.ntmps6
  go_wp2
  go_ret
  exact ⟨rfl, rfl⟩
theorem bytes6_no (s : ByteArray) (hs : 1048576 < s.size) (w : World) :
    Calls Try.prog 6 #[.string s] w fun e w' => e = .returned (.bool false) ∧ w' = w := by
  go_enter Try.func6, Try.ntmps6
  go_wp2
  go_ret
  exact ⟨rfl, rfl⟩

/-- Too long: true at once. -/
theorem walk_long (s : ByteArray) (h : 1048576 < s.size) (w : World) :
    Calls Try.prog 3 #[.string s] w fun e w' => e = .returned (.bool true) ∧ w' = w := by
  go_enter Try.func3, Try.ntmps3
  go_wp2_with (go_at_call 6; refine (bytes6_no s h _).mono ?_; rintro e w' ⟨rfl, rfl⟩)
  go_ret
  exact ⟨rfl, rfl⟩

set_option maxHeartbeats 1000000 in
theorem walk_all (s : ByteArray) (hs : s.size ≤ 1048576) (w : World) :
    Calls Try.prog 3 #[.string s] w fun e w' => e = .returned (.bool true) ∧ Grown w w' := by
  have HV : Hid (Calls Try.prog 8 #[.string s] w fun e w' => e = .returned (.bool (validS s)) ∧ Grown w w') := validWalk s (by omega) w
  have hd : decide ((1048576 : Int) < (s.size : Int)) = false := decide_eq_false (by omega)
  go_enter Try.func3, Try.ntmps3
  go_wp2_with (go_at_call 6; refine (bytes6 s hs _).mono ?_; rintro e w' ⟨rfl, rfl⟩)
  go_loop [3] (fun i => ∃ k : Nat, k ≤ s.size ∧ i = .int .i64 k ∧ (s.data.toList.take k).all okB = true) (fun i => s.size - (intOf i).toNat)
  case atStart => exact ⟨0, by omega, rfl, rfl⟩
  case round =>
    obtain ⟨k, hk, rfl, hall⟩ := hrel
    have HA : Hid ((s.data.toList.take k).all okB = true) := hall
    clear hall
    by_cases hlt : k < s.size
    · have L : Hid (Calls Try.prog 7 #[.int .u8 (s[k].toNat : Int)] w' fun e w'_1 => e = .returned (.bool (okI (s[k].toNat : Int))) ∧ w'_1 = w') := allowedByte _ w'
      cases hb : okI (s[k].toNat : Int)
      · have HM := hideM (model_at s k (pre_stop s k hlt HA.out hb))
        rw [hb] at L
        clear hb
        go_wp2_with (go_at_call 7; refine L.out.mono ?_; rintro e w' ⟨rfl, rfl⟩)
        all_goals
          refine HV.out.mono ?_
          rintro e w1 ⟨rfl, hgr⟩
          have HG := hideM hgr
          clear hgr
          go_wp2_with fail
          go_ret
          refine ⟨ret_bool ?_, HG.out⟩
          have hm := HM.out
          first
            | (rw [decide_eq_false (show ¬ s.size ≤ 64 by omega)] at hm; rw [hm]; rfl)
            | (rw [decide_eq_false (show ¬ 1 ≤ k by omega), Bool.false_and, Bool.and_false] at hm; rw [hm]; rfl)
            | (rw [decide_eq_true (show s.size ≤ 64 by omega), decide_eq_true (show 1 ≤ k by omega), decide_eq_true (show k = s.size by omega)] at hm; rw [hm]; rfl)
            | (rw [decide_eq_true (show s.size ≤ 64 by omega), decide_eq_true (show 1 ≤ k by omega), decide_eq_false (show ¬ k = s.size by omega), ‹((s.extract k s.size).toList == [35, 101, 112, 104, 101, 109, 101, 114, 97, 108]) = true›] at hm; rw [hm]; rfl)
            | (rw [decide_eq_true (show s.size ≤ 64 by omega), decide_eq_true (show 1 ≤ k by omega), decide_eq_false (show ¬ k = s.size by omega), ‹((s.extract k s.size).toList == [35, 101, 112, 104, 101, 109, 101, 114, 97, 108]) = false›] at hm; rw [hm]; rfl)
      · have HT : Hid ((s.data.toList.take (k + 1)).all okB = true) := all_step s k hlt HA.out hb
        rw [hb] at L
        clear hb
        go_wp2_with (go_at_call 7; refine L.out.mono ?_; rintro e w' ⟨rfl, rfl⟩)
        go_round
        case rel => exact ⟨k + 1, by omega, by go_num, HT.out⟩
        case measure => simp [intOf]; omega
    · have HM := hideM (model_at s k (pre_full s k hlt hk HA.out))
      go_wp2_with fail
      all_goals
        refine HV.out.mono ?_
        rintro e w1 ⟨rfl, hgr⟩
        have HG := hideM hgr
        clear hgr
        go_wp2_with fail
        go_ret
        refine ⟨ret_bool ?_, HG.out⟩
        have hm := HM.out
        first
          | (rw [decide_eq_false (show ¬ s.size ≤ 64 by omega)] at hm; rw [hm]; rfl)
          | (rw [decide_eq_false (show ¬ 1 ≤ k by omega), Bool.false_and, Bool.and_false] at hm; rw [hm]; rfl)
          | (rw [decide_eq_true (show s.size ≤ 64 by omega), decide_eq_true (show 1 ≤ k by omega), decide_eq_true (show k = s.size by omega)] at hm; rw [hm]; rfl)
          | (rw [decide_eq_true (show s.size ≤ 64 by omega), decide_eq_true (show 1 ≤ k by omega), decide_eq_false (show ¬ k = s.size by omega), ‹((s.extract k s.size).toList == [35, 101, 112, 104, 101, 109, 101, 114, 97, 108]) = true›] at hm; rw [hm]; rfl)
          | (rw [decide_eq_true (show s.size ≤ 64 by omega), decide_eq_true (show 1 ≤ k by omega), decide_eq_false (show ¬ k = s.size by omega), ‹((s.extract k s.size).toList == [35, 101, 112, 104, 101, 109, 101, 114, 97, 108]) = false›] at hm; rw [hm]; rfl)

theorem walk (a0 : ByteArray) (w0 : a0.size ≤ maxLen) (w : World) :
    Calls Try.prog 3 #[.string a0] w fun e w' => e = .returned (.bool true) ∧ Grown w w' := by
  by_cases h : 1048576 < a0.size
  · refine (walk_long a0 h w).mono ?_
    rintro e w' ⟨he, rfl⟩
    exact ⟨he, Grown.refl _⟩
  · exact walk_all a0 (by omega) w

/-! ### THE ROW's STEP: WRITTEN OUT: LEAVE IT -/
set_option maxRecDepth 100000 in
theorem lifted (os : Os) (started : os.Started) (H : Type) (enc : TypeId × Value → H) :
    ReturnsInHanded {} Try.checked os 3 .any (Rows.fnValidMatchesPrefixModelSpec.pre6 enc Try.prog Try.f3 Rows.fnValidMatchesPrefixModelRow.domain false) (Rows.fnValidMatchesPrefixModelSpec.post enc Try.prog Try.f3 false true false false) := by
  refine returnsInHanded_of_change (C := Try.checked) own started (by kernel_rfl) Try.func3
    (ChangeSpec.witness6 (enc := enc) (C := Try.checked) false ⟨#[], #[.string ByteArray.empty], []⟩ 8 (by kernel_rfl) (by kernel_rfl) (by kernel_rfl) (by kernel_rfl)) ?_
  intro W base args ds gs before hval0 hW hcnd _
  have hval : ∀ (j : Nat) t v, Try.f3.params[j]? = some t → args[j]? = some v → Value.okWide Try.prog W .any base t v := hval0
  have hW' := hW
  obtain ⟨p, q, hA0, hV, rfl, hfz, hnd⟩ := hW
  have hA : DataW.TrodAll enc Try.prog W 0 (fun _ => true) true Try.f3.params.toList args.toList ds p := hA0
  rw [Try.params3] at hA hval
  obtain ⟨v0, vs0, d0, ds0, p0, q0, hargs, rfl, rfl, h0, r0⟩ := trodAll_cons hA
  obtain ⟨rfl, rfl, rfl⟩ := trodAll_nil r0
  obtain rfl : args = #[v0] := by cases args; simp_all
  obtain ⟨rfl, rfl⟩ := trodVars_none hV
  obtain ⟨a0, rfl, rfl, rfl, w0⟩ := open_string Try.underlying9 (hval 0 9 v0 rfl rfl) h0
  clear hA0 hval0
  simp only [List.append_nil] at hW'
  refine (walk a0 w0 W).mono fun e W' ⟨he, hg⟩ => ?_
  subst he
  exact ⟨_, rfl, post_of_same (pa := []) (pv := []) hW' (fun _ _ _ => (trodAll_cons_mk (shut_bool Try.underlying4 _) trodAll_mk0)) (fun sp _ => (trodAll_cons_mk (shut_string Try.underlying9 w0) trodAll_mk0)) (fun _ _ => rfl) rfl
    (hg.frame _) hg.2.1 (ok_one (by kernel_rfl) rfl (okWide_bool_mk Try.underlying4 _))⟩

theorem over : Rows.fnValidMatchesPrefixModelRow.holds Try.pinned (OpenSpec.ofChange Rows.fnValidMatchesPrefixModelSpec) :=
  OpenClaim.holds_of_wide 3 Try.f3 rfl rfl rfl rfl rfl rfl rfl ⟨rfl, rfl, rfl, rfl, rfl⟩ rfl rfl rfl rfl rfl (by kernel_rfl) Try.func3 (by kernel_rfl)
    (of_decide_eq_true (by kernel_rfl)) (by unfold Func.isWrapper; first | (rw [if_pos (by decide +kernel)]; kernel_rfl) | (rw [if_neg (by decide +kernel)]; exact ⟨rfl, rfl⟩))
    (fun os started H enc _ => lifted os started H enc)

/-- ████ THE STATEMENT ████ -/
theorem proved : Rows.FnValidMatchesPrefixModelSaid :=
  over
#print axioms proved
end Go.Proofs.Qxb6619215a.fnValidMatchesPrefixModel

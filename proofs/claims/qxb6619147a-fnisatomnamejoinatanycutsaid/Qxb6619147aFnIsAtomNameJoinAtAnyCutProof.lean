/-
  THE SHELL OF A PROOF OF 'Rows.FnIsAtomNameJoinAtAnyCutSaid' ('example.com/peerlattice/peerlattice/zzlaws_internal_composite_b1.FnIsAtomNameJoinAtAnyCut'), WRITTEN BY PROGRAM (proof-skeleton.mjs) off the guide's own print for that function. Not trusted: Lean checks it.
  THE WALK IS FILLED IN BY HAND. ALL ELSE IS THE GUIDE's TEMPLATE (howto/template/XProofs.lean) at this function's number and types: leave it.
-/
import Derived.Test.Qxb6619147aRows
import Derived.WalkKit
import Derived.ProofKit
import Derived.OpenShut
import Derived.ShutString
import Derived.WalkSpells
import Derived.WalkLawsBesides
import Derived.Deep.QuietTactic
import Derived.BigQuiet
import Derived.Test.Qxb6619147aHex
namespace Go.Proofs.Qxb6619147a.fnIsAtomNameJoinAtAnyCut
open Go.ChangeShapes Go.WideShapes Go.ChangeAt Go.RowKit
open Go.ChangeMaps (open_string shut_string)
set_option linter.unusedVariables false      -- a walk need not use every 'w<i>' (that an integer argument fits its kind)

theorem own : ownKnob Try.prog.godebug = none := by kernel_rfl

/-! ### STEP 1: THE WALK -/
open Plain

/-- The answer, of a string. -/
def atomS (s : ByteArray) : Bool := atom s.data.toList
theorem isAtomS (s : ByteArray) (hs : s.size ≤ 1048576) (w : World) : Calls Try.prog 7 #[.string s] w fun e w' => e = .returned (.bool (atomS s)) ∧ w' = w := isAtom s hs w

theorem data_append (a b : ByteArray) : (a ++ b).data.toList = a.data.toList ++ b.data.toList := by
  simp
theorem data_first (s : ByteArray) : (s.extract 0 1).data.toList = s.data.toList.take 1 := by
  simp

theorem join_head (H t : ByteArray) (h : atom H.data.toList = true) : atomS (H ++ t) = atomS (H.extract 0 1 ++ t) := by
  unfold atomS
  rw [data_append, data_append, data_first]
  exact atom_head _ _ h
theorem join_any (s t : ByteArray) (h : 0 < s.size) : atomS (s ++ t) = (atomS s && atomS (s.extract 0 1 ++ t)) := by
  unfold atomS
  rw [data_append, data_append, data_first]
  exact atom_join _ _ (by intro e; have h' : 0 < s.data.toList.length := h; rw [e] at h'; simp at h')

theorem atom_pos (H : ByteArray) (h : atom H.data.toList = true) : 1 ≤ H.size := by
  by_cases e : H.size = 0
  · rw [atom_empty H e] at h; cases h
  · omega

theorem bytes5 (s t : ByteArray) (hs : s.size ≤ 65536) (ht : t.size ≤ 65536) (w : World) :
    Calls Try.prog 5 #[.string s, .string t] w fun e w' => e = .returned (.bool true) ∧ w' = w := by
  go_enter Try.func5, Try.ntmps5
  go_wp2
  go_ret
  exact ⟨rfl, rfl⟩
theorem bytes5_any (s t : ByteArray) (hs : s.size ≤ maxLen) (ht : t.size ≤ maxLen) (w : World) :
    Calls Try.prog 5 #[.string s, .string t] w fun e w' => ∃ b, e = .returned (.bool b) ∧ w' = w := by
  unfold maxLen at hs ht
  go_enter Try.func5, Try.ntmps5
  go_wp2
  all_goals
    go_ret
    exact ⟨_, rfl, rfl⟩

/-- Too long: true at once. -/
theorem walk_long (s t : ByteArray) (hs : s.size ≤ maxLen) (ht : t.size ≤ maxLen) (h : 65536 < s.size ∨ 65536 < t.size) (w : World) :
    Calls Try.prog 3 #[.string s, .string t] w fun e w' => e = .returned (.bool true) ∧ w' = w := by
  have B := bytes5_any s t hs ht w
  have HB : Hid (Calls Try.prog 5 #[.string s, .string t] w fun e w' => ∃ b, e = .returned (.bool b) ∧ w' = w) := B
  clear B
  unfold maxLen at hs ht
  by_cases h1 : 65536 < s.size
  all_goals
    go_enter Try.func3, Try.ntmps3
    go_wp2_with fail
    refine HB.out.mono ?_
    rintro e w' ⟨b, rfl, rfl⟩
    cases b
    all_goals
      go_wp2_with fail
      go_ret
      exact ⟨rfl, rfl⟩

set_option maxHeartbeats 1000000 in
/-- The first is empty. -/
theorem walk_empty (t : ByteArray) (ht : t.size ≤ 65536) (w : World) :
    Calls Try.prog 3 #[.string ByteArray.empty, .string t] w fun e w' => e = .returned (.bool true) ∧ Grown w w' := by
  have B := bytes5 ByteArray.empty t (by simp) ht w
  have HB : Hid (Calls Try.prog 5 #[.string ByteArray.empty, .string t] w fun e w' => e = .returned (.bool true) ∧ w' = w) := B
  have HH : Hid (∀ w : World, Calls Try.prog 6 #[.int .u8 113, .string t] w fun e w' => ∃ H : ByteArray, e = .returned (.string H) ∧ atom H.data.toList = true ∧ H.size ≤ 131073 ∧ Grown w w') := hexName 113 t ht (by omega) (by omega) (by decide)
  clear B
  go_enter Try.func3, Try.ntmps3
  go_wp2_with fail
  refine HB.out.mono ?_
  rintro e w' ⟨rfl, rfl⟩
  go_wp2_with fail
  refine (HH.out _).mono ?_
  rintro e w1 ⟨H, rfl, hat, hsz, hgr⟩
  have hj := join_head H t hat
  have hat' : atomS H = true := hat
  have hpos := atom_pos H hat
  have hpos' : (1 : Int) ≤ (H.size : Int) := by omega
  clear hat
  have HG : Hid (Grown w' w1) := hgr
  clear hgr
  go_wp2_with (go_at_call 7; refine (isAtomS _ (by omega) _).mono ?_; rintro e w' ⟨rfl, rfl⟩)
  go_quiet ((go_at_call 7; exact Calls.quiet_of_same (isAtomS _ (by first | omega | (simp; omega)) _)))
  go_wp2_with (go_at_call 7; refine (isAtomS _ (by omega) _).mono ?_; rintro e w' ⟨rfl, rfl⟩)
  go_ret
  exact ⟨ret_bool (by simp), HG.out⟩

/-- The first is not empty. -/
theorem walk_some (s t : ByteArray) (h0 : 0 < s.size) (hs : s.size ≤ 65536) (ht : t.size ≤ 65536) (w : World) :
    Calls Try.prog 3 #[.string s, .string t] w fun e w' => e = .returned (.bool true) ∧ Grown w w' := by
  have he : s.toList.isEmpty = false := by rw [ByteArray.toList_eq, list_head s h0]; rfl
  have h1 : (1 : Int) ≤ (s.size : Int) := by omega
  have hj := join_any s t h0
  have B := bytes5 s t hs ht w
  have HB : Hid (Calls Try.prog 5 #[.string s, .string t] w fun e w' => e = .returned (.bool true) ∧ w' = w) := B
  have HH : Hid (∀ w : World, Calls Try.prog 6 #[.int .u8 113, .string t] w fun e w' => ∃ H : ByteArray, e = .returned (.string H) ∧ atom H.data.toList = true ∧ H.size ≤ 131073 ∧ Grown w w') := hexName 113 t ht (by omega) (by omega) (by decide)
  clear B
  cases hA : atomS s
  all_goals
    rw [hA] at hj
    simp only [Bool.false_and, Bool.true_and] at hj
    go_enter Try.func3, Try.ntmps3
    go_wp2_with fail
    refine HB.out.mono ?_
    rintro e w' ⟨rfl, rfl⟩
    go_wp2_with fail
    refine (HH.out _).mono ?_
    rintro e w1 ⟨H, rfl, hat, hsz, hgr⟩
    have hk := join_head H t hat
    have hat' : atomS H = true := hat
    have hpos := atom_pos H hat
    have hpos' : (1 : Int) ≤ (H.size : Int) := by omega
    clear hat
    have HG : Hid (Grown w' w1) := hgr
    clear hgr
    go_wp2_with (go_at_call 7; refine (isAtomS _ (by omega) _).mono ?_; rintro e w' ⟨rfl, rfl⟩)
    go_quiet ((go_at_call 7; exact Calls.quiet_of_same (isAtomS _ (by first | omega | (simp; omega)) _)))
    go_wp2_with (go_at_call 7; refine (isAtomS _ (by first | omega | (simp; omega)) _).mono ?_; rintro e w' ⟨rfl, rfl⟩)
    go_ret
    exact ⟨ret_bool (by simp), HG.out⟩

theorem walk (a0 : ByteArray) (a1 : ByteArray) (w0 : a0.size ≤ maxLen) (w1 : a1.size ≤ maxLen) (w : World) :
    Calls Try.prog 3 #[.string a0, .string a1] w fun e w' => e = .returned (.bool true) ∧ Grown w w' := by
  by_cases h : 65536 < a0.size ∨ 65536 < a1.size
  · refine (walk_long a0 a1 w0 w1 h w).mono ?_
    rintro e w' ⟨he, rfl⟩
    exact ⟨he, Grown.refl _⟩
  · by_cases h0 : a0.size = 0
    · have e : a0 = ByteArray.empty := ByteArray.ext (Array.eq_empty_of_size_eq_zero h0)
      subst e
      exact walk_empty a1 (by omega) w
    · exact walk_some a0 a1 (by omega) (by omega) (by omega) w

/-! ### THE ROW's STEP: WRITTEN OUT: LEAVE IT -/
set_option maxRecDepth 100000 in
theorem lifted (os : Os) (started : os.Started) (H : Type) (enc : TypeId × Value → H) :
    ReturnsInHanded {} Try.checked os 3 .any (Rows.fnIsAtomNameJoinAtAnyCutSpec.pre6 enc Try.prog Try.f3 Rows.fnIsAtomNameJoinAtAnyCutRow.domain false) (Rows.fnIsAtomNameJoinAtAnyCutSpec.post enc Try.prog Try.f3 false true false false) := by
  refine returnsInHanded_of_change (C := Try.checked) own started (by kernel_rfl) Try.func3
    (ChangeSpec.witness6 (enc := enc) (C := Try.checked) false ⟨#[], #[.string ByteArray.empty, .string ByteArray.empty], []⟩ 8 (by kernel_rfl) (by kernel_rfl) (by kernel_rfl) (by kernel_rfl)) ?_
  intro W base args ds gs before hval0 hW hcnd _
  have hval : ∀ (j : Nat) t v, Try.f3.params[j]? = some t → args[j]? = some v → Value.okWide Try.prog W .any base t v := hval0
  have hW' := hW
  obtain ⟨p, q, hA0, hV, rfl, hfz, hnd⟩ := hW
  have hA : DataW.TrodAll enc Try.prog W 0 (fun _ => true) true Try.f3.params.toList args.toList ds p := hA0
  rw [Try.params3] at hA hval
  obtain ⟨v0, vs0, d0, ds0, p0, q0, hargs, rfl, rfl, h0, r0⟩ := trodAll_cons hA
  obtain ⟨v1, vs1, d1, ds1, p1, q1, rfl, rfl, rfl, h1, r1⟩ := trodAll_cons r0
  obtain ⟨rfl, rfl, rfl⟩ := trodAll_nil r1
  obtain rfl : args = #[v0, v1] := by cases args; simp_all
  obtain ⟨rfl, rfl⟩ := trodVars_none hV
  obtain ⟨a0, rfl, rfl, rfl, w0⟩ := open_string Try.underlying9 (hval 0 9 v0 rfl rfl) h0
  obtain ⟨a1, rfl, rfl, rfl, w1⟩ := open_string Try.underlying9 (hval 1 9 v1 rfl rfl) h1
  clear hA0 hval0
  simp only [List.append_nil] at hW'
  refine (walk a0 a1 w0 w1 W).mono fun e W' ⟨he, hg⟩ => ?_
  subst he
  exact ⟨_, rfl, post_of_same (pa := []) (pv := []) hW' (fun _ _ _ => (trodAll_cons_mk (shut_bool Try.underlying4 _) trodAll_mk0)) (fun sp _ => (trodAll_cons_mk (shut_string Try.underlying9 w0) (trodAll_cons_mk (shut_string Try.underlying9 w1) trodAll_mk0))) (fun _ _ => rfl) rfl
    (hg.frame _) hg.2.1 (ok_one (by kernel_rfl) rfl (okWide_bool_mk Try.underlying4 _))⟩

theorem over : Rows.fnIsAtomNameJoinAtAnyCutRow.holds Try.pinned (OpenSpec.ofChange Rows.fnIsAtomNameJoinAtAnyCutSpec) :=
  OpenClaim.holds_of_wide 3 Try.f3 rfl rfl rfl rfl rfl rfl rfl ⟨rfl, rfl, rfl, rfl, rfl⟩ rfl rfl rfl rfl rfl (by kernel_rfl) Try.func3 (by kernel_rfl)
    (of_decide_eq_true (by kernel_rfl)) (by unfold Func.isWrapper; first | (rw [if_pos (by decide +kernel)]; kernel_rfl) | (rw [if_neg (by decide +kernel)]; exact ⟨rfl, rfl⟩))
    (fun os started H enc _ => lifted os started H enc)

/-- ████ THE STATEMENT ████ -/
theorem proved : Rows.FnIsAtomNameJoinAtAnyCutSaid :=
  over
#print axioms proved
end Go.Proofs.Qxb6619147a.fnIsAtomNameJoinAtAnyCut

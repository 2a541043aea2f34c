/-
  THE SHELL OF A PROOF OF 'Rows.FnIsAtomNameOneByteInsertedAfterTheFirstSaid' ('example.com/peerlattice/peerlattice/zzlaws_internal_composite_b1.FnIsAtomNameOneByteInsertedAfterTheFirst'), WRITTEN BY PROGRAM (proof-skeleton.mjs) off the guide's own print for that function. Not trusted: Lean checks it.
  THE WALK IS FILLED IN BY HAND. ALL ELSE IS THE GUIDE's TEMPLATE (howto/template/XProofs.lean) at this function's number and types: leave it.
-/
import Derived.Test.Qxb6619147aRows
import Derived.WalkKit
import Derived.ProofKit
import Derived.OpenShut
import Derived.ShutString
import Derived.WalkSpells
import Derived.WalkLawsBesides
import Derived.Deep.QuietTactic
import Derived.BigQuiet
import Derived.Test.Qxb6619147aItoa
namespace Go.Proofs.Qxb6619147a.fnIsAtomNameOneByteInsertedAfterTheFirst
open Go.ChangeShapes Go.WideShapes Go.ChangeAt Go.RowKit
open Go.ChangeMaps (open_string shut_string)
set_option linter.unusedVariables false      -- a walk need not use every 'w<i>' (that an integer argument fits its kind)

theorem own : ownKnob Try.prog.godebug = none := by kernel_rfl

/-! ### STEP 1: THE WALK -/
open Plain

/-- The answer, of a string. -/
def atomS (s : ByteArray) : Bool := atom s.data.toList
theorem isAtomS (s : ByteArray) (hs : s.size ≤ 1048576) (w : World) : Calls Try.prog 7 #[.string s] w fun e w' => e = .returned (.bool (atomS s)) ∧ w' = w := isAtom s hs w

theorem data_append (a b : ByteArray) : (a ++ b).data.toList = a.data.toList ++ b.data.toList := by
  simp
theorem data_first (s : ByteArray) (i : Nat) : (s.extract 0 i).data.toList = s.data.toList.take i := by
  simp
theorem data_rest (s : ByteArray) (i : Nat) : (s.extract i s.size).data.toList = s.data.toList.drop i := by
  have e : (s.extract i s.size).data = s.data.extract i s.data.size := by rw [ByteArray.data_extract]; rfl
  rw [e, Array.toList_extract, List.extract_eq_take_drop, List.take_of_length_le (by simp)]

/-- The tag is a name. -/
theorem tag_name (H D : ByteArray) (hH : atom H.data.toList = true) (hD : NamesS D) : atomS (H ++ { data := #[95] } ++ D) = true := by
  unfold atomS
  have hn : H.data.toList ≠ [] := by intro e; rw [e] at hH; cases hH
  rw [data_append, data_append, atom_snoc _ _ (by simp [hn]), atom_snoc _ _ hn, hH, show D.data.toList.all namB = true from hD]
  rfl

/-- The law itself, of strings. -/
theorem insert_law (s O : ByteArray) (c : UInt8) (hO : O.data.toList = [c]) (i : Nat) (h1 : 1 ≤ i) (h2 : i ≤ s.size) :
    atomS (s.extract 0 i ++ O ++ s.extract i s.size) = (atomS s && atomS (s.extract 0 1 ++ O)) := by
  unfold atomS
  rw [data_append, data_append, data_append, data_first, data_first, data_rest, hO]
  exact atom_insert _ i c h1 h2

theorem bytes8 (s : ByteArray) (i c : Int) (hs : s.size ≤ 65536) (w : World) :
    Calls Try.prog 8 #[.string s, .int .i64 i, .int .u8 c] w fun e w' => e = .returned (.bool true) ∧ w' = w := by
  go_enter Try.func8, Try.ntmps8
  go_wp2
  go_ret
  exact ⟨rfl, rfl⟩
theorem bytes8_any (s : ByteArray) (i c : Int) (hs : s.size ≤ maxLen) (w : World) :
    Calls Try.prog 8 #[.string s, .int .i64 i, .int .u8 c] w fun e w' => ∃ b, e = .returned (.bool b) ∧ w' = w := by
  unfold maxLen at hs
  go_enter Try.func8, Try.ntmps8
  go_wp2
  all_goals
    go_ret
    exact ⟨_, rfl, rfl⟩

/-- Too long: true at once. -/
theorem walk_long (s : ByteArray) (i c : Int) (hs : s.size ≤ maxLen) (h : 65536 < s.size) (w : World) :
    Calls Try.prog 4 #[.string s, .int .i64 i, .int .u8 c] w fun e w' => e = .returned (.bool true) ∧ w' = w := by
  have B := bytes8_any s i c hs w
  have HB : Hid (Calls Try.prog 8 #[.string s, .int .i64 i, .int .u8 c] w fun e w' => ∃ b, e = .returned (.bool b) ∧ w' = w) := B
  clear B
  unfold maxLen at hs
  go_enter Try.func4, Try.ntmps4
  go_wp2_with fail
  refine HB.out.mono ?_
  rintro e w' ⟨b, rfl, rfl⟩
  cases b
  all_goals
    go_wp2_with fail
    go_ret
    exact ⟨rfl, rfl⟩

/-- No such place: true at once. -/
theorem walk_noplace (s : ByteArray) (i c : Int) (hs : s.size ≤ 65536) (h : i < 1 ∨ (s.size : Int) < i) (w : World) :
    Calls Try.prog 4 #[.string s, .int .i64 i, .int .u8 c] w fun e w' => e = .returned (.bool true) ∧ w' = w := by
  have B := bytes8 s i c hs w
  have HB : Hid (Calls Try.prog 8 #[.string s, .int .i64 i, .int .u8 c] w fun e w' => e = .returned (.bool true) ∧ w' = w) := B
  clear B
  by_cases h1 : i < 1
  all_goals
    go_enter Try.func4, Try.ntmps4
    go_wp2_with fail
    refine HB.out.mono ?_
    rintro e w' ⟨rfl, rfl⟩
    go_wp2_with fail
    go_ret
    exact ⟨rfl, rfl⟩

/-- One block of the call's own, then two callees that each make blocks. -/
theorem grown_two {w w1 w2 : World} {C : Array Value} {t : TypeId} {n : Nat} (h1 : Grown (w.alloc (.cells C t)) w1) (h2 : Grown w1 w2) : Grown w (w2.drewN n) := by
  have h0 : Grown w (w.alloc (.cells C t)) := (Grown.refl w).alloc C t
  exact ⟨World.keptBut_trans h0.1 (World.keptBut_trans h1.1 h2.1), fun a => (h2.2.1 a).trans ((h1.2.1 a).trans (h0.2.1 a)), Nat.le_trans h0.2.2 (Nat.le_trans h1.2.2 h2.2.2)⟩

set_option maxHeartbeats 1000000 in
/-- The place is there. -/
theorem walk_place (s : ByteArray) (i : Nat) (c : Int) (hs : s.size ≤ 65536) (h1 : 1 ≤ i) (h2 : i ≤ s.size) (hc0 : 0 ≤ c) (hc1 : c ≤ 255) (w : World) :
    Calls Try.prog 4 #[.string s, .int .i64 i, .int .u8 c] w fun e w' => e = .returned (.bool true) ∧ Grown w w' := by
  have B := bytes8 s i c hs w
  have HB : Hid (Calls Try.prog 8 #[.string s, .int .i64 i, .int .u8 c] w fun e w' => e = .returned (.bool true) ∧ w' = w) := B
  clear B
  have k1 : ¬ (i : Int) < 1 := by omega
  have k2 : ¬ (s.size : Int) < (i : Int) := by omega
  have k3 : (1 : Int) ≤ (s.size : Int) := by omega
  have hcv : (convert 26 9 (.slice (some ⟨w.heap.size, 0, none⟩) 1 1)).run Try.prog (w.alloc (.cells #[.int .u8 c] 5)) = .ok (.string (ofInts [c])) (w.alloc (.cells #[.int .u8 c] 5)) :=
    toStr (w.alloc (.cells #[.int .u8 c] 5)) w.heap.size 0 1 [c] ((show RowOf #[.int .u8 c] [c] from rfl).cell w 5 0)
  obtain ⟨O, hOe⟩ : ∃ O, O = ofInts [c] := ⟨_, rfl⟩
  have hO : O.data.toList = [UInt8.ofNat c.toNat] := by rw [hOe, ofInts_list]; rfl
  have hOs : O.size = 1 := by rw [hOe, ofInts_size]; rfl
  rw [← hOe] at hcv
  clear hOe
  have HL := insert_law s O _ hO i h1 h2
  have HH : Hid (∀ w : World, Calls Try.prog 6 #[.int .u8 120, .string O] w fun e w' => ∃ H : ByteArray, e = .returned (.string H) ∧ atom H.data.toList = true ∧ H.size ≤ 131073 ∧ Grown w w') := hexName 120 O (by omega) (by omega) (by omega) (by decide)
  have HI : Hid (∀ w : World, Calls Try.prog 9 #[.int .i64 i] w fun e w' => ∃ D : ByteArray, e = .returned (.string D) ∧ NamesS D ∧ D.size ≤ 24 ∧ Grown w w') := itoa i (by omega) (by omega)
  clear hO
  cases hA : atomS s
  all_goals
    rw [hA] at HL
    simp only [Bool.false_and, Bool.true_and] at HL
    go_enter Try.func4, Try.ntmps4
    go_wp2_with fail
    refine HB.out.mono ?_
    rintro e w' ⟨rfl, rfl⟩
    go_wp2_with fail
    refine (HH.out _).mono ?_
    rintro e w1 ⟨H, rfl, hat, hsz, hgr⟩
    have HAT : Hid (atom H.data.toList = true) := hat
    have HG : Hid (Grown _ w1) := hgr
    clear hat hgr
    go_wp2_with fail
    refine (HI.out _).mono ?_
    rintro e w2 ⟨D, rfl, hnm, hds, hgr⟩
    have htag := tag_name H D HAT.out hnm
    have hts : (H ++ { data := #[95] } ++ D).size ≤ 1048576 := by
      rw [ByteArray.size_append, ByteArray.size_append, show ({ data := #[95] } : ByteArray).size = 1 from rfl]; omega
    have HG2 : Hid (Grown w1 w2) := hgr
    clear hnm hgr
    go_wp2_with (go_at_call 7; refine (isAtomS _ hts _).mono ?_; rintro e w' ⟨rfl, rfl⟩)
    go_quiet ((go_at_call 7; exact Calls.quiet_of_same (isAtomS _ (by first | omega | (simp; omega)) _)))
    go_wp2_with (go_at_call 7; refine (isAtomS _ (by first | omega | (simp; omega)) _).mono ?_; rintro e w' ⟨rfl, rfl⟩)
    go_ret
    exact ⟨ret_bool (by simp), grown_two HG.out HG2.out⟩

theorem walk (a0 : ByteArray) (a1 : Int) (a2 : Int) (w0 : a0.size ≤ maxLen) (w1 : (Lit.int .i64 a1).wf = true) (w2 : (Lit.int .u8 a2).wf = true) (w : World) :
    Calls Try.prog 4 #[.string a0, .int .i64 a1, .int .u8 a2] w fun e w' => e = .returned (.bool true) ∧ Grown w w' := by
  by_cases h : 65536 < a0.size
  · refine (walk_long a0 a1 a2 w0 h w).mono ?_
    rintro e w' ⟨he, rfl⟩
    exact ⟨he, Grown.refl _⟩
  · by_cases h1 : a1 < 1 ∨ (a0.size : Int) < a1
    · refine (walk_noplace a0 a1 a2 (by omega) h1 w).mono ?_
      rintro e w' ⟨he, rfl⟩
      exact ⟨he, Grown.refl _⟩
    · obtain ⟨i, rfl⟩ := Int.eq_ofNat_of_zero_le (show 0 ≤ a1 by omega)
      have hb := bounds_u8 w2
      exact walk_place a0 i a2 (by omega) (by omega) (by omega) hb.1 hb.2 w

/-! ### THE ROW's STEP: WRITTEN OUT: LEAVE IT -/
set_option maxRecDepth 100000 in
theorem lifted (os : Os) (started : os.Started) (H : Type) (enc : TypeId × Value → H) :
    ReturnsInHanded {} Try.checked os 4 .any (Rows.fnIsAtomNameOneByteInsertedAfterTheFirstSpec.pre6 enc Try.prog Try.f4 Rows.fnIsAtomNameOneByteInsertedAfterTheFirstRow.domain false) (Rows.fnIsAtomNameOneByteInsertedAfterTheFirstSpec.post enc Try.prog Try.f4 false true false false) := by
  refine returnsInHanded_of_change (C := Try.checked) own started (by kernel_rfl) Try.func4
    (ChangeSpec.witness6 (enc := enc) (C := Try.checked) false ⟨#[], #[.string ByteArray.empty, .int .i64 0, .int .u8 0], []⟩ 8 (by kernel_rfl) (by kernel_rfl) (by kernel_rfl) (by kernel_rfl)) ?_
  intro W base args ds gs before hval0 hW hcnd _
  have hval : ∀ (j : Nat) t v, Try.f4.params[j]? = some t → args[j]? = some v → Value.okWide Try.prog W .any base t v := hval0
  have hW' := hW
  obtain ⟨p, q, hA0, hV, rfl, hfz, hnd⟩ := hW
  have hA : DataW.TrodAll enc Try.prog W 0 (fun _ => true) true Try.f4.params.toList args.toList ds p := hA0
  rw [Try.params4] at hA hval
  obtain ⟨v0, vs0, d0, ds0, p0, q0, hargs, rfl, rfl, h0, r0⟩ := trodAll_cons hA
  obtain ⟨v1, vs1, d1, ds1, p1, q1, rfl, rfl, rfl, h1, r1⟩ := trodAll_cons r0
  obtain ⟨v2, vs2, d2, ds2, p2, q2, rfl, rfl, rfl, h2, r2⟩ := trodAll_cons r1
  obtain ⟨rfl, rfl, rfl⟩ := trodAll_nil r2
  obtain rfl : args = #[v0, v1, v2] := by cases args; simp_all
  obtain ⟨rfl, rfl⟩ := trodVars_none hV
  obtain ⟨a0, rfl, rfl, rfl, w0⟩ := open_string Try.underlying9 (hval 0 9 v0 rfl rfl) h0
  obtain ⟨a1, rfl, rfl, rfl, w1⟩ := open_int Try.underlying3 (hval 1 3 v1 rfl rfl) h1
  obtain ⟨a2, rfl, rfl, rfl, w2⟩ := open_int Try.underlying5 (hval 2 5 v2 rfl rfl) h2
  clear hA0 hval0
  simp only [List.append_nil] at hW'
  refine (walk a0 a1 a2 w0 w1 w2 W).mono fun e W' ⟨he, hg⟩ => ?_
  subst he
  exact ⟨_, rfl, post_of_same (pa := []) (pv := []) hW' (fun _ _ _ => (trodAll_cons_mk (shut_bool Try.underlying4 _) trodAll_mk0)) (fun sp _ => (trodAll_cons_mk (shut_string Try.underlying9 w0) (trodAll_cons_mk (shut_int Try.underlying3 w1) (trodAll_cons_mk (shut_int Try.underlying5 w2) trodAll_mk0)))) (fun _ _ => rfl) rfl
    (hg.frame _) hg.2.1 (ok_one (by kernel_rfl) rfl (okWide_bool_mk Try.underlying4 _))⟩

theorem over : Rows.fnIsAtomNameOneByteInsertedAfterTheFirstRow.holds Try.pinned (OpenSpec.ofChange Rows.fnIsAtomNameOneByteInsertedAfterTheFirstSpec) :=
  OpenClaim.holds_of_wide 4 Try.f4 rfl rfl rfl rfl rfl rfl rfl ⟨rfl, rfl, rfl, rfl, rfl⟩ rfl rfl rfl rfl rfl (by kernel_rfl) Try.func4 (by kernel_rfl)
    (of_decide_eq_true (by kernel_rfl)) (by unfold Func.isWrapper; first | (rw [if_pos (by decide +kernel)]; kernel_rfl) | (rw [if_neg (by decide +kernel)]; exact ⟨rfl, rfl⟩))
    (fun os started H enc _ => lifted os started H enc)

/-- ████ THE STATEMENT ████ -/
theorem proved : Rows.FnIsAtomNameOneByteInsertedAfterTheFirstSaid :=
  over
#print axioms proved
end Go.Proofs.Qxb6619147a.fnIsAtomNameOneByteInsertedAfterTheFirst

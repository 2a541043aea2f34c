/-
  SEAT b6619147a: THE WALKS OF THE SHARED FUNCTIONS: 'isLetter', 'isNameByte', 'IsAtomName'.
-/
import Derived.Test.Qxb6619147aProg
import Derived.Test.Qxb6619147aPlain
import Derived.WalkKit
import Derived.WalkSpells
namespace Go.Proofs.Qxb6619147a
open Go.RowKit Plain

theorem ret_bool {a b : Bool} (h : a = b) : Ending.returned (.bool a) = .returned (.bool b) := by rw [h]

theorem letter (c : Int) (w : World) : Calls Try.prog 10 #[.int .u8 c] w fun e w' => e = .returned (.bool (ltrI c)) ∧ w' = w := by
  go_enter Try.func10, Try.ntmps10
  go_wp2
  all_goals
    go_ret
    exact ⟨ret_bool (by unfold ltrI; rw [Bool.eq_iff_iff]; first | (simp; done) | (simp; omega)), rfl⟩

theorem nameByte (c : Int) (w : World) : Calls Try.prog 11 #[.int .u8 c] w fun e w' => e = .returned (.bool (namI c)) ∧ w' = w := by
  have hl := letter c w
  have e : namI c = (ltrI c || (decide (48 ≤ c ∧ c ≤ 57) || decide (c = 95))) := rfl
  rw [e]
  clear e
  generalize ltrI c = b at hl ⊢
  have H : Hid (Calls Try.prog 10 #[.int .u8 c] w fun e w' => e = .returned (.bool b) ∧ w' = w) := hl
  clear hl
  cases b
  all_goals
    go_enter Try.func11, Try.ntmps11
    go_wp2_with (go_at_call 10; refine H.out.mono ?_; rintro e w' ⟨rfl, rfl⟩)
    all_goals
      go_ret
      exact ⟨ret_bool (by first | rfl | (rw [Bool.eq_iff_iff]; simp; done) | (rw [Bool.eq_iff_iff]; simp; omega)), rfl⟩

theorem take_snoc (s : ByteArray) (k : Nat) (h : k < s.size) : s.data.toList.take (k + 1) = s.data.toList.take k ++ [s[k]] := by
  rw [List.take_succ_eq_append_getElem (by simpa using h)]; rfl

theorem atom_empty (s : ByteArray) (h : s.size = 0) : atom s.data.toList = false := by
  have : s.data.toList = [] := by
    have h' : s.data.toList.length = 0 := h
    exact List.eq_nil_of_length_eq_zero h'
  rw [this]; rfl

theorem list_head (s : ByteArray) (h : 0 < s.size) : s.data.toList = s[0] :: s.data.toList.drop 1 := by
  have h' : 0 < s.data.toList.length := h
  conv => lhs; rw [← List.take_append_drop 1 s.data.toList, take_snoc s 0 h]
  rfl

theorem atom_open (s : ByteArray) (h : 0 < s.size) : atom s.data.toList = (ltrI (s[0].toNat : Int) && (s.data.toList.drop 1).all namB) := by
  conv => lhs; rw [list_head s h]
  rfl

theorem name_step (s : ByteArray) (k : Nat) (h1 : 1 ≤ k) (hk : k < s.size) (h : ((s.data.toList.take k).drop 1).all namB = true) (hb : namI (s[k].toNat : Int) = true) : ((s.data.toList.take (k + 1)).drop 1).all namB = true := by
  rw [take_snoc s k hk, List.drop_append_of_le_length (by have : k ≤ s.data.toList.length := Nat.le_of_lt hk; simp; omega), List.all_append, h]
  simpa [namB] using hb

theorem name_bad (s : ByteArray) (k : Nat) (h1 : 1 ≤ k) (hk : k < s.size) (hb : namI (s[k].toNat : Int) = false) : (s.data.toList.drop 1).all namB = false := by
  rw [List.all_eq_false]
  have hk' : k < s.data.toList.length := hk
  refine ⟨s[k], ?_, by simpa [namB] using hb⟩
  have : s[k] = (s.data.toList.drop 1)[k - 1]'(by simp; omega) := by
    rw [List.getElem_drop]
    simp only [show 1 + (k - 1) = k by omega]
    rfl
  rw [this]
  exact List.getElem_mem _

set_option maxHeartbeats 1000000 in
theorem isAtom (s : ByteArray) (hs : s.size ≤ 1048576) (w : World) : Calls Try.prog 7 #[.string s] w fun e w' => e = .returned (.bool (atom s.data.toList)) ∧ w' = w := by
  by_cases h0 : s.size = 0
  · rw [atom_empty s h0]
    have e : s = ByteArray.empty := ByteArray.ext (Array.eq_empty_of_size_eq_zero h0)
    subst e
    go_enter Try.func7, Try.ntmps7
    go_wp2
    go_ret
    exact ⟨rfl, rfl⟩
  · have hp : 0 < s.size := by omega
    have he : s.toList.isEmpty = false := by
      rw [ByteArray.toList_eq, list_head s hp]; rfl
    rw [atom_open s hp]
    have L := letter (s[0].toNat : Int) w
    generalize ltrI (s[0].toNat : Int) = b at L ⊢
    have H : Hid (Calls Try.prog 10 #[.int .u8 (s[0].toNat : Int)] w fun e w' => e = .returned (.bool b) ∧ w' = w) := L
    clear L
    cases b
    · go_enter Try.func7, Try.ntmps7
      go_wp2_with (go_at_call 10; refine H.out.mono ?_; rintro e w' ⟨rfl, rfl⟩)
      go_ret
      exact ⟨rfl, rfl⟩
    · go_enter Try.func7, Try.ntmps7
      go_wp2_with (go_at_call 10; refine H.out.mono ?_; rintro e w' ⟨rfl, rfl⟩)
      go_loop [3] (fun i => ∃ k : Nat, 1 ≤ k ∧ k ≤ s.size ∧ i = .int .i64 k ∧ ((s.data.toList.take k).drop 1).all namB = true) (fun i => s.size - (intOf i).toNat)
      case atStart => exact ⟨1, by omega, hp, rfl, by rw [take_snoc s 0 hp]; rfl⟩
      case round =>
        obtain ⟨k, hk1, hk, rfl, hall⟩ := hrel
        have HA : Hid (((s.data.toList.take k).drop 1).all namB = true) := hall
        clear hall
        by_cases hlt : k < s.size
        · have L := nameByte (s[k].toNat : Int) w'
          have hg : namI (s[k].toNat : Int) = true → ((s.data.toList.take (k + 1)).drop 1).all namB = true := name_step s k hk1 hlt HA.out
          have hb : namI (s[k].toNat : Int) = false → (s.data.toList.drop 1).all namB = false := name_bad s k hk1 hlt
          generalize namI (s[k].toNat : Int) = b at L hg hb
          have H2 : Hid (Calls Try.prog 11 #[.int .u8 (s[k].toNat : Int)] w' fun e w'_1 => e = .returned (.bool b) ∧ w'_1 = w') := L
          have HG : Hid (b = true → ((s.data.toList.take (k + 1)).drop 1).all namB = true) := hg
          have HB : Hid (b = false → (s.data.toList.drop 1).all namB = false) := hb
          clear L hg hb
          cases b
          · have HF : Hid ((s.data.toList.drop 1).all namB = false) := HB.out rfl
            clear HB HG
            go_wp2_with (go_at_call 11; refine H2.out.mono ?_; rintro e w' ⟨rfl, rfl⟩)
            go_ret
            exact ⟨ret_bool (by rw [HF.out]; rfl), rfl⟩
          · have HT : Hid (((s.data.toList.take (k + 1)).drop 1).all namB = true) := HG.out rfl
            clear HB HG
            go_wp2_with (go_at_call 11; refine H2.out.mono ?_; rintro e w' ⟨rfl, rfl⟩)
            go_round
            case rel => exact ⟨k + 1, by omega, by omega, by go_num, HT.out⟩
            case measure => simp [intOf]; omega
        · go_wp2
          go_ret
          refine ⟨ret_bool ?_, rfl⟩
          have h := HA.out
          rw [List.take_of_length_le (show s.data.toList.length ≤ k from by have : s.data.toList.length = s.size := rfl; omega)] at h
          rw [List.drop_one] at h
          rw [h]

end Go.Proofs.Qxb6619147a

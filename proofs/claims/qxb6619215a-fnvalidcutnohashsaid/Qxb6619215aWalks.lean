/-
  SEAT b6619215a: THE WALKS OF THE SHARED FUNCTIONS: the alphabet, 'strings.TrimSuffix', 'names.Valid', 'zzAllAllowed', 'zzHasHash'.
-/
import Derived.Test.Qxb6619215aProg
import Derived.Test.Qxb6619215aPlain
import Derived.WalkKit
import Derived.WalkSpells
import Derived.WalkLawsBesides
namespace Go.Proofs.Qxb6619215a
open Go.RowKit Plain

theorem ret_bool {a b : Bool} (h : a = b) : Ending.returned (.bool a) = .returned (.bool b) := by rw [h]

set_option maxHeartbeats 1000000 in
theorem allowedByte (c : Int) (w : World) : Calls Try.prog 7 #[.int .u8 c] w fun e w' => e = .returned (.bool (okI c)) ∧ w' = w := by
  go_enter Try.func7, Try.ntmps7
  go_wp2
  all_goals
    go_ret
    exact ⟨ret_bool (by unfold okI; first | rfl | (rw [Bool.eq_iff_iff]; simp; done) | (rw [Bool.eq_iff_iff]; simp; omega)), rfl⟩

set_option maxHeartbeats 1000000 in
theorem allowedRune (c : Int) (w : World) : Calls Try.prog 14 #[.int .i32 c] w fun e w' => e = .returned (.bool (okI c)) ∧ w' = w := by
  go_enter Try.func14, Try.ntmps14
  go_wp2
  all_goals
    go_ret
    exact ⟨ret_bool (by unfold okI; first | rfl | (rw [Bool.eq_iff_iff]; simp; done) | (rw [Bool.eq_iff_iff]; simp; omega)), rfl⟩

theorem take_snoc (s : ByteArray) (k : Nat) (h : k < s.size) : s.data.toList.take (k + 1) = s.data.toList.take k ++ [s[k]] := by
  rw [List.take_succ_eq_append_getElem (by simpa using h)]; rfl
theorem list_head (s : ByteArray) (h : 0 < s.size) : s.data.toList = s[0] :: s.data.toList.drop 1 := by
  conv => lhs; rw [← List.take_append_drop 1 s.data.toList, take_snoc s 0 h]
  rfl
theorem data_rest (s : ByteArray) (i : Nat) : (s.extract i s.size).data.toList = s.data.toList.drop i := by
  have e : (s.extract i s.size).data = s.data.extract i s.data.size := by rw [ByteArray.data_extract]; rfl
  rw [e, Array.toList_extract, List.extract_eq_take_drop, List.take_of_length_le (by simp)]
theorem data_first (s : ByteArray) (i : Nat) : (s.extract 0 i).data.toList = s.data.toList.take i := by
  simp

/-- Does the string end in the suffix? -/
def sufB (s : ByteArray) : Bool := decide (eph <:+ s.data.toList)

theorem suf_short (s : ByteArray) (h : s.size < 10) : sufB s = false := by
  unfold sufB
  refine decide_eq_false fun hs => ?_
  have := hs.length_le
  rw [eph_length] at this
  have e : s.data.toList.length = s.size := rfl
  omega
theorem suf_long (s : ByteArray) : sufB s = ((s.extract (s.size - 10) s.size).toList == eph) := by
  unfold sufB
  rw [ByteArray.toList_eq, data_rest, Bool.eq_iff_iff]
  simp only [decide_eq_true_eq, beq_iff_eq]
  rw [List.suffix_iff_eq_drop, eph_length]
  constructor
  · intro e; exact e.symm
  · intro e; exact e.symm

theorem hasSuffix (s : ByteArray) (hs : s.size ≤ 1048600) (w : World) :
    Calls Try.prog 16 #[.string s, .string { data := #[35, 101, 112, 104, 101, 109, 101, 114, 97, 108] }] w fun e w' => e = .returned (.bool (sufB s)) ∧ w' = w := by
  by_cases h : s.size < 10
  · rw [suf_short s h]
    have hd : decide ((10 : Int) ≤ (s.size : Int)) = false := decide_eq_false (by omega)
    go_enter Try.func16, Try.ntmps16
    go_wp2
    go_ret
    exact ⟨rfl, rfl⟩
  · rw [suf_long s]
    have hd : (10 : Int) ≤ (s.size : Int) := by omega
    go_enter Try.func16, Try.ntmps16
    go_wp2
    go_ret
    exact ⟨rfl, rfl⟩

def trimS (s : ByteArray) : ByteArray := if sufB s = true then s.extract 0 (s.size - 10) else s

theorem trimS_list (s : ByteArray) : (trimS s).data.toList = trim s.data.toList := by
  unfold trimS trim sufB
  by_cases h : eph <:+ s.data.toList
  · rw [if_pos h, if_pos (by simpa using h), data_first]
    rfl
  · rw [if_neg h, if_neg (by simpa using h)]
theorem trimS_size (s : ByteArray) : (trimS s).size ≤ s.size := by
  unfold trimS
  split
  · simp
  · exact Nat.le_refl _

theorem trimLite (s : ByteArray) (hs : s.size ≤ 1048600) (w : World) :
    Calls Try.prog 15 #[.string s, .string { data := #[35, 101, 112, 104, 101, 109, 101, 114, 97, 108] }] w fun e w' => e = .returned (.string (trimS s)) ∧ w' = w := by
  have H : Hid (Calls Try.prog 16 #[.string s, .string { data := #[35, 101, 112, 104, 101, 109, 101, 114, 97, 108] }] w fun e w' => e = .returned (.bool (sufB s)) ∧ w' = w) := hasSuffix s hs w
  have hl : sufB s = true → 10 ≤ s.size := by
    intro h
    by_cases h' : s.size < 10
    · rw [suf_short s h'] at h; cases h
    · omega
  unfold trimS
  generalize sufB s = b at H hl ⊢
  cases b
  · clear hl
    go_enter Try.func15, Try.ntmps15
    go_wp2_with (go_at_call 16; refine H.out.mono ?_; rintro e w' ⟨rfl, rfl⟩)
    go_ret
    exact ⟨rfl, rfl⟩
  · have h10 := hl rfl
    clear hl
    have hd : (10 : Int) ≤ (s.size : Int) := by omega
    go_enter Try.func15, Try.ntmps15
    go_wp2_with (go_at_call 16; refine H.out.mono ?_; rintro e w' ⟨rfl, rfl⟩)
    go_ret
    exact ⟨rfl, rfl⟩

theorem trimSuffix (s : ByteArray) (hs : s.size ≤ 1048600) (w : World) :
    Calls Try.prog 13 #[.string s, .string { data := #[35, 101, 112, 104, 101, 109, 101, 114, 97, 108] }] w fun e w' => e = .returned (.string (trimS s)) ∧ w' = w := by
  go_enter Try.func13, Try.ntmps13
  go_wp2_with (go_at_call 15; refine (trimLite s hs _).mono ?_; rintro e w' ⟨rfl, rfl⟩)
  go_ret
  exact ⟨rfl, rfl⟩

/-! ### 'zzAllAllowed', 'zzHasHash' -/
theorem all_step (s : ByteArray) (k : Nat) (hk : k < s.size) (h : (s.data.toList.take k).all okB = true) (hb : okI (s[k].toNat : Int) = true) : (s.data.toList.take (k + 1)).all okB = true := by
  rw [take_snoc s k hk, List.all_append, h]
  simpa [okB] using hb
theorem all_bad (s : ByteArray) (k : Nat) (hk : k < s.size) (hb : okI (s[k].toNat : Int) = false) : s.data.toList.all okB = false := by
  rw [List.all_eq_false]
  refine ⟨s[k], ?_, by simpa [okB] using hb⟩
  have hk' : k < s.data.toList.length := hk
  exact List.getElem_mem hk'
theorem all_done (s : ByteArray) (k : Nat) (hk : ¬ k < s.size) (h : (s.data.toList.take k).all okB = true) : s.data.toList.all okB = true := by
  rw [List.take_of_length_le (show s.data.toList.length ≤ k from by have : s.data.toList.length = s.size := rfl; omega)] at h
  exact h

/-- All bytes allowed, of a string. -/
def allS (s : ByteArray) : Bool := s.data.toList.all okB

set_option maxHeartbeats 1000000 in
theorem allAllowed (s : ByteArray) (hs : s.size ≤ 1048576) (w : World) : Calls Try.prog 10 #[.string s] w fun e w' => e = .returned (.bool (allS s)) ∧ w' = w := by
  go_enter Try.func10, Try.ntmps10
  go_wp2
  go_loop [3] (fun i => ∃ k : Nat, k ≤ s.size ∧ i = .int .i64 k ∧ (s.data.toList.take k).all okB = true) (fun i => s.size - (intOf i).toNat)
  case atStart => exact ⟨0, by omega, rfl, rfl⟩
  case round =>
    obtain ⟨k, hk, rfl, hall⟩ := hrel
    have HA : Hid ((s.data.toList.take k).all okB = true) := hall
    clear hall
    by_cases hlt : k < s.size
    · have L : Hid (Calls Try.prog 7 #[.int .u8 (s[k].toNat : Int)] w fun e w' => e = .returned (.bool (okI (s[k].toNat : Int))) ∧ w' = w) := allowedByte _ w
      cases hb : okI (s[k].toNat : Int)
      · have HF : Hid (allS s = false) := all_bad s k hlt hb
        rw [hb] at L
        clear hb
        go_wp2_with (go_at_call 7; refine L.out.mono ?_; rintro e w' ⟨rfl, rfl⟩)
        go_ret
        exact ⟨ret_bool HF.out.symm, rfl⟩
      · have HT : Hid ((s.data.toList.take (k + 1)).all okB = true) := all_step s k hlt HA.out hb
        rw [hb] at L
        clear hb
        go_wp2_with (go_at_call 7; refine L.out.mono ?_; rintro e w' ⟨rfl, rfl⟩)
        go_round
        case rel => exact ⟨k + 1, by omega, by go_num, HT.out⟩
        case measure => simp [intOf]; omega
    · have HT : Hid (allS s = true) := all_done s k hlt HA.out
      go_wp2
      go_ret
      exact ⟨ret_bool HT.out.symm, rfl⟩

/-- Is there a hash, of a string. -/
def hashS (s : ByteArray) : Bool := hasHash s.data.toList

theorem hash_step (s : ByteArray) (k : Nat) (hk : k < s.size) (h : hasHash (s.data.toList.take k) = false) (hb : ((s[k].toNat : Int) == 35) = false) : hasHash (s.data.toList.take (k + 1)) = false := by
  unfold hasHash at *
  rw [take_snoc s k hk, List.any_append, h]
  simp only [List.any_cons, List.any_nil, Bool.or_false, Bool.false_or]
  rw [beq_eq_false_iff_ne] at hb ⊢
  intro e
  rw [e] at hb
  exact hb rfl
theorem hash_hit (s : ByteArray) (k : Nat) (hk : k < s.size) (hb : ((s[k].toNat : Int) == 35) = true) : hashS s = true := by
  unfold hashS hasHash
  rw [List.any_eq_true]
  have hk' : k < s.data.toList.length := hk
  refine ⟨s[k], List.getElem_mem hk', ?_⟩
  have e := eq_of_beq hb
  have e' : s[k] = 35 := UInt8.toNat_inj.1 (by have : ((35 : UInt8).toNat : Int) = 35 := rfl; omega)
  rw [e']
  rfl
theorem hash_done (s : ByteArray) (k : Nat) (hk : ¬ k < s.size) (h : hasHash (s.data.toList.take k) = false) : hashS s = false := by
  rw [List.take_of_length_le (show s.data.toList.length ≤ k from by have : s.data.toList.length = s.size := rfl; omega)] at h
  exact h

set_option maxHeartbeats 1000000 in
theorem zzHash (s : ByteArray) (hs : s.size ≤ 1048576) (w : World) : Calls Try.prog 11 #[.string s] w fun e w' => e = .returned (.bool (hashS s)) ∧ w' = w := by
  go_enter Try.func11, Try.ntmps11
  go_wp2
  go_loop [3] (fun i => ∃ k : Nat, k ≤ s.size ∧ i = .int .i64 k ∧ hasHash (s.data.toList.take k) = false) (fun i => s.size - (intOf i).toNat)
  case atStart => exact ⟨0, by omega, rfl, rfl⟩
  case round =>
    obtain ⟨k, hk, rfl, hall⟩ := hrel
    have HA : Hid (hasHash (s.data.toList.take k) = false) := hall
    clear hall
    by_cases hlt : k < s.size
    · cases hb : ((s[k].toNat : Int) == 35)
      · have HT : Hid (hasHash (s.data.toList.take (k + 1)) = false) := hash_step s k hlt HA.out hb
        go_wp2
        go_round
        case rel => exact ⟨k + 1, by omega, by go_num, HT.out⟩
        case measure => simp [intOf]; omega
      · have HF : Hid (hashS s = true) := hash_hit s k hlt hb
        go_wp2
        go_ret
        exact ⟨ret_bool HF.out.symm, rfl⟩
    · have HT : Hid (hashS s = false) := hash_done s k hlt HA.out
      go_wp2
      go_ret
      exact ⟨ret_bool HT.out.symm, rfl⟩

end Go.Proofs.Qxb6619215a

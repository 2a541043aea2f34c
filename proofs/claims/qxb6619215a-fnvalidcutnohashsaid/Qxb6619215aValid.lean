/-
  SEAT b6619215a: THE WALK OF 'names.Valid'.
-/
import Derived.Test.Qxb6619215aWalks
namespace Go.Proofs.Qxb6619215a
open Go.RowKit Plain

/-- The answer, of a string. -/
def validS (s : ByteArray) : Bool := valid s.data.toList

theorem grown_trans {a b c : World} (h1 : Grown a b) (h2 : Grown b c) : Grown a c :=
  ⟨World.keptBut_trans h1.1 h2.1, fun x => (h2.2.1 x).trans (h1.2.1 x), Nat.le_trans h1.2.2 h2.2.2⟩

/-- The iterator's block is new, and nothing in it is frozen. -/
theorem grown_iter (w : World) (s : ByteArray) (k : Nat) : Grown w (w.iter s k) := by
  refine ⟨World.keptBut_alloc w _ _, fun a => ?_, by simp [World.iter]⟩
  by_cases h : a.block = w.heap.size
  · have e1 : (w.iter s k).heap[a.block]? = some (.stringIter s k) := by rw [h]; exact World.iter_heap w s k
    have e2 : w.heap[a.block]? = none := by rw [h]; simp
    simp [World.frozen?, e1, e2]
  · exact World.frozen?_alloc_old _ _ _ h

theorem valid_long (s : ByteArray) (h : 64 < s.size) : validS s = false := by
  unfold validS valid
  have e : s.data.toList.length = s.size := rfl
  rw [decide_eq_false (by omega), Bool.false_and]
theorem valid_empty (s : ByteArray) (h : (trimS s).size = 0) : validS s = false := by
  unfold validS valid
  have e : (trimS s).data.toList = [] := by
    have h' : (trimS s).data.toList.length = 0 := h
    exact List.eq_nil_of_length_eq_zero h'
  rw [← trimS_list, e]
  simp
theorem valid_some (s : ByteArray) (h : s.size ≤ 64) (h0 : 0 < (trimS s).size) : validS s = allS (trimS s) := by
  unfold validS valid allS
  have e : s.data.toList.length = s.size := rfl
  rw [decide_eq_true (by omega : s.data.toList.length ≤ 64), Bool.true_and, ← trimS_list, list_head _ h0]
  simp

/-- The rune that stands at a place: allowed just where the byte is. -/
theorem rune_ok (s : ByteArray) (k : Nat) (hk : k < s.size) : okI ((Utf8.decode s k).1 : Int) = okI (s[k].toNat : Int) ∧ (okI (s[k].toNat : Int) = true → (Utf8.decode s k).2 = 1) := by
  by_cases ha : s[k].toNat < 128
  · rw [decode_ascii s k hk ha]
    exact ⟨rfl, fun _ => rfl⟩
  · have hd := decode_high s k hk (by omega)
    have h1 : okI ((Utf8.decode s k).1 : Int) = false := okI_big _ (by omega)
    have h2 : okI (s[k].toNat : Int) = false := okI_big _ (by omega)
    rw [h1, h2]
    exact ⟨rfl, fun h => by cases h⟩

set_option maxHeartbeats 1000000 in
theorem validWalk (s : ByteArray) (hs : s.size ≤ 1048600) (w : World) : Calls Try.prog 8 #[.string s] w fun e w' => e = .returned (.bool (validS s)) ∧ Grown w w' := by
  by_cases h64 : 64 < s.size
  · have HV : Hid (validS s = false) := valid_long s h64
    go_enter Try.func8, Try.ntmps8
    go_wp2_with fail
    go_ret
    exact ⟨ret_bool HV.out.symm, Grown.refl _⟩
  · have HT : Hid (Calls Try.prog 13 #[.string s, .string { data := #[35, 101, 112, 104, 101, 109, 101, 114, 97, 108] }] w fun e w' => e = .returned (.string (trimS s)) ∧ w' = w) := trimSuffix s hs w
    have HE : Hid ((trimS s).size = 0 → validS s = false) := valid_empty s
    have HS : Hid (0 < (trimS s).size → validS s = allS (trimS s)) := valid_some s (by omega)
    have hB := trimS_size s
    generalize trimS s = B at HT HE HS hB
    by_cases h0 : B.size = 0
    · have HV : Hid (validS s = false) := HE.out h0
      have e : B = ByteArray.empty := ByteArray.ext (Array.eq_empty_of_size_eq_zero h0)
      subst e
      clear HE HS h0 hB
      go_enter Try.func8, Try.ntmps8
      go_wp2_with (go_at_call 13; refine HT.out.mono ?_; rintro e w' ⟨rfl, rfl⟩)
      go_ret
      exact ⟨ret_bool HV.out.symm, Grown.refl _⟩
    · have HV : Hid (validS s = allS B) := HS.out (by omega)
      have he : B.toList.isEmpty = false := by rw [ByteArray.toList_eq, list_head B (by omega)]; rfl
      clear HE HS
      go_enter Try.func8, Try.ntmps8
      go_wp2_with (go_at_call 13; refine HT.out.mono ?_; rintro e w' ⟨rfl, rfl⟩)
      go_loopw [] (fun wr => ∃ k : Nat, k ≤ B.size ∧ wr = w'.iter B k ∧ (B.data.toList.take k).all okB = true) (fun wr => B.size - wr.iterPos w'.heap.size)
      case atStart => exact ⟨0, by omega, rfl, rfl⟩
      case round =>
        obtain ⟨k, hk, rfl, hall⟩ := hrel
        have HA : Hid ((B.data.toList.take k).all okB = true) := hall
        clear hall
        by_cases hlt : k < B.size
        · have hr := rune_ok B k hlt
          have hnx : ∀ ty, (Instr.next (.pointer (some ⟨w'.heap.size, 0, none⟩)) true ty).run Try.prog (w'.iter B k) = _ := fun ty => run_next_any w' B k ty hlt
          generalize (Utf8.decode B k).1 = rr at hr hnx
          generalize (Utf8.decode B k).2 = dd at hr hnx
          have L : Hid (∀ W : World, Calls Try.prog 14 #[.int .i32 (rr : Int)] W fun e w' => e = .returned (.bool (okI (rr : Int))) ∧ w' = W) := allowedRune _
          rw [hr.1] at L
          cases hb : okI (B[k].toNat : Int)
          · have HF : Hid (allS B = false) := all_bad B k hlt hb
            rw [hb] at L
            clear hb hr
            go_wp2_with (go_at_call 14; refine (L.out _).mono ?_; rintro e w' ⟨rfl, rfl⟩)
            go_ret
            exact ⟨ret_bool (by rw [HV.out, HF.out]), grown_iter _ _ _⟩
          · have HG : Hid ((B.data.toList.take (k + 1)).all okB = true) := all_step B k hlt HA.out hb
            have hd1 := hr.2 hb
            subst hd1
            rw [hb] at L
            clear hb hr
            go_wp2_with (go_at_call 14; refine (L.out _).mono ?_; rintro e w' ⟨rfl, rfl⟩)
            go_roundw
            case rel => exact ⟨k + 1, by omega, rfl, HG.out⟩
            case measure => simp; omega
        · have hnx : ∀ ty, (Instr.next (.pointer (some ⟨w'.heap.size, 0, none⟩)) true ty).run Try.prog (w'.iter B k) = _ := fun ty => run_next_end w' B k ty hlt
          have HD : Hid (allS B = true) := all_done B k hlt HA.out
          go_wp2
          go_ret
          exact ⟨ret_bool (by rw [HV.out, HD.out]), grown_iter _ _ _⟩

end Go.Proofs.Qxb6619215a

/-
  SEAT b6618090a: THE WALKS OF THE SHARED FUNCTIONS: the bound on lengths, 'zzNibble', 'codeUnit', 'ZZcodeUnit'.
-/
import Derived.Test.Qxb6618090aProg
import Derived.Test.Qxb6618090aPlain
import Derived.WalkKit
import Derived.WalkSpells
namespace Go.Proofs.Qxb6618090a
open Go.RowKit Plain

theorem bytes6 (a : Option Addr) (n c : Nat) (hn : n ≤ 1048576) (w : World) :
    Calls Try.prog 6 #[.slice a n c] w fun e w' => e = .returned (.bool true) ∧ w' = w := by
  have h1 : ¬ (1048576 : Int) < (n : Int) := by omega
  go_enter Try.func6, Try.ntmps6
  go_wp2
  go_ret
  exact ⟨rfl, rfl⟩

theorem bytes6_no (a : Option Addr) (n c : Nat) (hn : 1048576 < n) (w : World) :
    Calls Try.prog 6 #[.slice a n c] w fun e w' => e = .returned (.bool false) ∧ w' = w := by
  have h1 : (1048576 : Int) < (n : Int) := by omega
  go_enter Try.func6, Try.ntmps6
  go_wp2
  go_ret
  exact ⟨rfl, rfl⟩

theorem ret_int {k : IntKind} {a b : Int} (h : a = b) : Ending.returned (.int k a) = .returned (.int k b) := by rw [h]

/-- The two written alphabets, digit by digit. -/
theorem low_all : ∀ k : Fin 16, (({ data := #[48, 49, 50, 51, 52, 53, 54, 55, 56, 57, 97, 98, 99, 100, 101, 102] } : ByteArray)[k.val]'k.isLt).toNat = if k.val < 10 then 48 + k.val else 87 + k.val := by
  decide +kernel
theorem up_all : ∀ k : Fin 16, (({ data := #[48, 49, 50, 51, 52, 53, 54, 55, 56, 57, 65, 66, 67, 68, 69, 70] } : ByteArray)[k.val]'k.isLt).toNat = if k.val < 10 then 48 + k.val else 55 + k.val := by
  decide +kernel
theorem low_at (k : Nat) (hk : k < 16) : ∀ h, (({ data := #[48, 49, 50, 51, 52, 53, 54, 55, 56, 57, 97, 98, 99, 100, 101, 102] } : ByteArray)[k]'h).toNat = if k < 10 then 48 + k else 87 + k :=
  fun _ => low_all ⟨k, hk⟩
theorem up_at (k : Nat) (hk : k < 16) : ∀ h, (({ data := #[48, 49, 50, 51, 52, 53, 54, 55, 56, 57, 65, 66, 67, 68, 69, 70] } : ByteArray)[k]'h).toNat = if k < 10 then 48 + k else 55 + k :=
  fun _ => up_all ⟨k, hk⟩

theorem nib_low (k : Nat) (hk : k < 16) (c : Int) (h : c = ((if k < 10 then 48 + k else 87 + k : Nat) : Int)) : nib c = k := by
  by_cases h10 : k < 10
  · rw [if_pos h10] at h; rw [nib_digit c (by omega) (by omega)]; omega
  · rw [if_neg h10] at h; rw [nib_lower c (by omega) (by omega)]; omega
theorem nib_up (k : Nat) (hk : k < 16) (c : Int) (h : c = ((if k < 10 then 48 + k else 55 + k : Nat) : Int)) : nib c = k := by
  by_cases h10 : k < 10
  · rw [if_pos h10] at h; rw [nib_digit c (by omega) (by omega)]; omega
  · rw [if_neg h10] at h; rw [nib_upper c (by omega) (by omega)]; omega
theorem nib_miss (k : Nat) (hk : k < 16) (c : Int) (h1 : ¬ c = ((if k < 10 then 48 + k else 87 + k : Nat) : Int)) (h2 : ¬ c = ((if k < 10 then 48 + k else 55 + k : Nat) : Int))
    (hn : nib c = -1 ∨ (k : Int) ≤ nib c) : nib c = -1 ∨ ((k + 1 : Nat) : Int) ≤ nib c := by
  rcases hn with hn | hn
  · exact .inl hn
  · by_cases e : nib c = k
    · exfalso
      unfold nib at e
      by_cases h10 : k < 10
      · rw [if_pos h10] at h1 h2
        split at e
        · omega
        · split at e
          · omega
          · split at e <;> omega
      · rw [if_neg h10] at h1 h2
        split at e
        · omega
        · split at e
          · omega
          · split at e <;> omega
    · right; omega

set_option maxHeartbeats 1000000 in
theorem nibble (c : Int) (w : World) :
    Calls Try.prog 7 #[.int .u8 c] w fun e w' => e = .returned (.int .i32 (nib c)) ∧ w' = w := by
  go_enter Try.func7, Try.ntmps7
  go_wp2
  go_loop [5] (fun i => ∃ k : Nat, k ≤ 16 ∧ i = .int .i64 k ∧ (nib c = -1 ∨ (k : Int) ≤ nib c)) (fun i => 16 - (intOf i).toNat)
  case atStart => exact ⟨0, by omega, rfl, by have := nib_range c; omega⟩
  case round =>
    obtain ⟨k, hk, rfl, hn⟩ := hrel
    by_cases hlt : k < 16
    · go_wp2
      · go_ret
        exact ⟨ret_int (nib_low k hlt _ (by rw [low_at k hlt])).symm, rfl⟩
      · go_ret
        rename_i hne hor _
        have hu := hor.resolve_left (by simpa using hne)
        rw [up_at k hlt] at hu
        exact ⟨ret_int (nib_up k hlt c (eq_of_beq hu)).symm, rfl⟩
      · rename_i hne hand
        go_round
        case rel =>
          refine ⟨k + 1, by omega, by go_num, nib_miss k hlt c ?_ ?_ hn⟩
          · rw [low_at k hlt] at hne; exact hne
          · have h2 := hand.2
            rw [up_at k hlt] at h2
            simpa using h2
        case measure => simp [intOf]; omega
    · go_wp2
      go_ret
      have hr := nib_range c
      exact ⟨ret_int (by omega), rfl⟩

theorem code_short (a : Option Addr) (n c : Nat) (hn : n < 6) (w : World) :
    Calls Try.prog 11 #[.slice a n c] w fun e w' => e = .returned (.int .i32 (-1)) ∧ w' = w := by
  have h1 : (n : Int) < 6 := by omega
  go_enter Try.func11, Try.ntmps11
  go_wp2
  go_ret
  exact ⟨rfl, rfl⟩

theorem code_open (b off n c : Nat) (hn : 6 ≤ n) (c0 c1 : Int) (w : World) (h0 : w.cell? ⟨b, off, none⟩ = some (.int .u8 c0)) (h1 : w.cell? ⟨b, off + 1, none⟩ = some (.int .u8 c1)) (hb : ¬ (c0 = 92 ∧ c1 = 117)) :
    Calls Try.prog 11 #[.slice (some ⟨b, off, none⟩) n c] w fun e w' => e = .returned (.int .i32 (-1)) ∧ w' = w := by
  have h6 : ¬ (n : Int) < 6 := by omega
  have h60 : (0 : Int) < (n : Int) := by omega
  have h61 : (1 : Int) < (n : Int) := by omega
  by_cases e0 : c0 = 92
  · subst e0
    have e1 : (c1 != 117) = true := by simp; intro e; exact hb ⟨rfl, e⟩
    go_enter Try.func11, Try.ntmps11
    go_wp2
    go_ret
    exact ⟨rfl, rfl⟩
  · have e1 : (c0 != 92) = true := by simpa using e0
    go_enter Try.func11, Try.ntmps11
    go_wp2
    go_ret
    exact ⟨rfl, rfl⟩

theorem join16 (x d : Int) (h0 : 0 ≤ x) (h1 : x ≤ 4095) (h2 : 0 ≤ d) (h3 : d ≤ 15) : bits .or .i32 (x * 16) d = x * 16 + d :=
  bits_join .i32 31 (by decide) wraps_i32 4 (x * 16) d (by omega) (by omega) (by omega) h2 (by omega) (by omega)

theorem digit_step (f : Nat → Int) (k : Nat) (hk : k < 4) (hn : ∀ j, j < k → 0 ≤ nib (f j)) (d : Int) (hd : nib (f k) = d) (h0 : 0 ≤ d) :
    bits .or .i32 (acc f k * 16) d = acc f (k + 1) ∧ ∀ j, j < k + 1 → 0 ≤ nib (f j) := by
  have hac := acc_range f k (by omega) hn
  have hr := nib_range (f k)
  refine ⟨?_, fun j hj => ?_⟩
  · rw [join16 _ _ hac.1 (hac.2.2 (by omega)) h0 (by omega)]
    simp only [acc, hd]
  · by_cases e : j = k
    · subst e; omega
    · exact hn j (by omega)

theorem val_int {k : IntKind} {a b : Int} (h : a = b) : Value.int k a = .int k b := by rw [h]

set_option maxHeartbeats 1000000 in
theorem code_un (b off n c : Nat) (hn : 6 ≤ n) (hc : n ≤ c) (f : Nat → Int) (hf : ∀ j, 0 ≤ f j ∧ f j ≤ 255) (w : World) (h0 : w.cell? ⟨b, off, none⟩ = some (.int .u8 92)) (h1 : w.cell? ⟨b, off + 1, none⟩ = some (.int .u8 117))
    (hcell : ∀ j, j < 4 → w.cell? ⟨b, off + 2 + j, none⟩ = some (.int .u8 (f j))) :
    Calls Try.prog 11 #[.slice (some ⟨b, off, none⟩) n c] w fun e w' => e = .returned (.int .i32 (un (f 0) (f 1) (f 2) (f 3))) ∧ w' = w := by
  have h6 : ¬ (n : Int) < 6 := by omega
  have h60 : (0 : Int) < (n : Int) := by omega
  have h61 : (1 : Int) < (n : Int) := by omega
  go_enter Try.func11, Try.ntmps11
  go_wp2
  go_loop [3, 24] (fun u i => ∃ k : Nat, k ≤ 4 ∧ i = .int .i64 k ∧ u = .int .i32 (acc f k) ∧ ∀ j, j < k → 0 ≤ nib (f j)) (fun _ i => 4 - (intOf i).toNat)
  case atStart => exact ⟨0, by omega, rfl, rfl, fun j hj => by omega⟩
  case round =>
    obtain ⟨k, hk, rfl, rfl, hn⟩ := hrel
    have hac := acc_range f k hk hn
    have hfk := hf k
    by_cases hlt : k < 4
    · have hck := hcell k hlt
      go_wp2
      all_goals first
        | (go_ret
           exact ⟨ret_int (un_bad f k hlt (nib_no _ (by omega) (by omega) (by omega))).symm, rfl⟩)
        | (obtain ⟨d, hd, hd0, hdv⟩ : ∃ d, nib (f k) = d ∧ 0 ≤ d ∧ d = f k - 48 := ⟨_, nib_digit _ (by omega) (by omega), by omega, rfl⟩
           have hs := digit_step f k hlt hn d hd hd0
           subst hdv
           go_round
           case rel => exact ⟨k + 1, by omega, by go_num, val_int hs.1, hs.2⟩
           case measure => simp [intOf]; omega)
        | (obtain ⟨d, hd, hd0, hdv⟩ : ∃ d, nib (f k) = d ∧ 0 ≤ d ∧ d = f k - 87 := ⟨_, nib_lower _ (by omega) (by omega), by omega, rfl⟩
           have hs := digit_step f k hlt hn d hd hd0
           subst hdv
           go_round
           case rel => exact ⟨k + 1, by omega, by go_num, val_int hs.1, hs.2⟩
           case measure => simp [intOf]; omega)
        | (obtain ⟨d, hd, hd0, hdv⟩ : ∃ d, nib (f k) = d ∧ 0 ≤ d ∧ d = f k - 55 := ⟨_, nib_upper _ (by omega) (by omega), by omega, rfl⟩
           have hs := digit_step f k hlt hn d hd hd0
           subst hdv
           go_round
           case rel => exact ⟨k + 1, by omega, by go_num, val_int hs.1, hs.2⟩
           case measure => simp [intOf]; omega)
    · go_wp2
      go_ret
      have hk4 : k = 4 := by omega
      subst hk4
      exact ⟨ret_int (un_full f hn).symm, rfl⟩

/-! ### 'ZZcodeUnit' hands on -/
theorem zz_short (a : Option Addr) (n c : Nat) (hn : n < 6) (w : World) :
    Calls Try.prog 8 #[.slice a n c] w fun e w' => e = .returned (.int .i32 (-1)) ∧ w' = w := by
  go_enter Try.func8, Try.ntmps8
  go_wp2_with (go_at_call 11; refine (code_short _ _ _ hn _).mono ?_; rintro e w' ⟨rfl, rfl⟩)
  go_ret
  exact ⟨rfl, rfl⟩

/-- THE CONTRACT OF 'codeUnit' AT SIX BYTES OR MORE. -/
theorem code_long (b off n c : Nat) (hn : 6 ≤ n) (hc : n ≤ c) (f : Nat → Int) (hf : ∀ j, 0 ≤ f j ∧ f j ≤ 255) (w : World)
    (hcell : ∀ j, j < 6 → w.cell? ⟨b, off + j, none⟩ = some (.int .u8 (f j))) :
    Calls Try.prog 11 #[.slice (some ⟨b, off, none⟩) n c] w fun e w' => e = .returned (.int .i32 (cu (f 0) (f 1) (f 2) (f 3) (f 4) (f 5))) ∧ w' = w := by
  have h0 := hcell 0 (by omega)
  have h1 := hcell 1 (by omega)
  unfold cu
  by_cases hb : f 0 = 92 ∧ f 1 = 117
  · rw [if_pos hb]
    rw [hb.1] at h0
    rw [hb.2] at h1
    exact code_un b off n c hn hc (fun j => f (j + 2)) (fun j => hf (j + 2)) w h0 h1 (fun j hj => by rw [show off + 2 + j = off + (j + 2) by omega]; exact hcell (j + 2) (by omega))
  · rw [if_neg hb]
    exact code_open b off n c hn (f 0) (f 1) w h0 h1 hb

theorem zz_long (b off n c : Nat) (hn : 6 ≤ n) (hc : n ≤ c) (f : Nat → Int) (hf : ∀ j, 0 ≤ f j ∧ f j ≤ 255) (w : World)
    (hcell : ∀ j, j < 6 → w.cell? ⟨b, off + j, none⟩ = some (.int .u8 (f j))) :
    Calls Try.prog 8 #[.slice (some ⟨b, off, none⟩) n c] w fun e w' => e = .returned (.int .i32 (cu (f 0) (f 1) (f 2) (f 3) (f 4) (f 5))) ∧ w' = w := by
  have K := code_long b off n c hn hc f hf w hcell
  generalize cu (f 0) (f 1) (f 2) (f 3) (f 4) (f 5) = r at K ⊢
  have H : Hid (Calls Try.prog 11 #[.slice (some ⟨b, off, none⟩) n c] w fun e w' => e = .returned (.int .i32 r) ∧ w' = w) := K
  clear K hcell hf
  go_enter Try.func8, Try.ntmps8
  go_wp2_with (go_at_call 11; refine H.out.mono ?_; rintro e w' ⟨rfl, rfl⟩)
  go_ret
  exact ⟨rfl, rfl⟩

end Go.Proofs.Qxb6618090a

/-
  SEAT b6619147a: 'zzItoa': digits alone.
-/
import Derived.Test.Qxb6619147aHex
namespace Go.Proofs.Qxb6619147a
open Go.RowKit Plain

/-- How large the rest may be behind m rounds. -/
def restMax : Nat → Int
  | 0 => 65536
  | 1 => 6553
  | 2 => 655
  | 3 => 65
  | 4 => 6
  | _ => 0

theorem restMax_step (m : Nat) (hm : m ≤ 4) (n : Int) (h0 : 0 < n) (h : n ≤ restMax m) : n / 10 ≤ restMax (m + 1) := by
  match m, hm with
  | 0, _ => simp only [restMax] at h ⊢; omega
  | 1, _ => simp only [restMax] at h ⊢; omega
  | 2, _ => simp only [restMax] at h ⊢; omega
  | 3, _ => simp only [restMax] at h ⊢; omega
  | 4, _ => simp only [restMax] at h ⊢; omega
theorem restMax_low (m : Nat) (n : Int) (h0 : 0 < n) (h : n ≤ restMax m) : m ≤ 4 ∧ n ≤ 65536 := by
  match m with
  | 0 | 1 | 2 | 3 | 4 => simp only [restMax] at h; omega
  | m + 5 => simp only [restMax] at h; omega

/-- What the row holds when the place stands at q. -/
structure Digits (q : Nat) (cur : Array Value) (ns : List Int) : Prop where
  row : RowOf cur ns
  len : ns.length = 24
  rest : ∀ j, q ≤ j → j < 24 → good (ns.getD j 0)

theorem good_dec (d : Int) (h0 : 0 ≤ d) (h1 : d ≤ 9) : good (48 + d) := by
  unfold good namI ltrI
  refine ⟨by omega, by omega, ?_⟩
  simp
  omega

theorem Digits.step {q : Nat} {cur : Array Value} {ns : List Int} (h : Digits q cur ns) (h1 : 1 ≤ q) (hq : q ≤ 24) (v : Int) (hv : good v) :
    Digits (q - 1) (cur.setIfInBounds (q - 1) (.int .u8 v)) (ns.set (q - 1) v) := by
  have hl := h.len
  refine ⟨h.row.set _ _, by simp [hl], fun j j1 j2 => ?_⟩
  by_cases e : q - 1 = j
  · subst e
    rw [getD_set_eq _ _ _ (by omega)]
    exact hv
  · rw [getD_set_ne _ _ _ _ e]
    exact h.rest j (by omega) j2

theorem names_ints (ns : List Int) (h : ∀ n ∈ ns, good n) : (ofInts ns).data.toList.all namB = true := by
  rw [ofInts_list, List.all_map, List.all_eq_true]
  intro x hx
  have g := h x hx
  show namB _ = true
  unfold namB
  rw [byte_back _ g.1 g.2.1]
  exact g.2.2

theorem Digits.names {q : Nat} {cur : Array Value} {ns : List Int} (h : Digits q cur ns) : (ofInts (ns.drop q)).data.toList.all namB = true ∧ (ofInts (ns.drop q)).size ≤ 24 := by
  have hl := h.len
  refine ⟨names_ints _ ?_, by rw [ofInts_size]; simp; omega⟩
  intro n hn
  obtain ⟨j, hj, rfl⟩ := List.getElem_of_mem hn
  simp at hj
  have g := h.rest (q + j) (by omega) (by omega)
  rw [List.getD_eq_getElem?_getD, List.getElem?_eq_getElem (by omega), Option.getD_some] at g
  rw [List.getElem_drop]
  exact g

theorem Try.array30 : Try.prog.underlying 30 = some (.array (Try.prog.arrayLen 30) (Try.prog.elem 30)) := by kernel_rfl
theorem Try.len30 : Try.prog.arrayLen 30 = 24 := by kernel_rfl
theorem Try.elem30 : Try.prog.elem 30 = 5 := by kernel_rfl
theorem Try.sizeOf5 (W : World) : (Go.sizeOf 5).run Try.prog W = .ok 1 W := by kernel_rfl

theorem tail30 (W : World) (b q : Nat) (hq : q < 24) :
    (Instr.sliceAt 30 (.pointer (some ⟨b, 0, none⟩)) (some (.int .i64 (q : Int))) none none).run Try.prog W = .ok (.slice (some ⟨b, q, none⟩) (24 - q) (24 - q)) W := by
  rw [run_sliceAt_array_l W 30 ⟨b, 0, none⟩ Try.array30 .i64 q (by omega) (by rw [Try.len30]; omega), Try.elem30, Try.sizeOf5, Try.len30]
  simp only [Result.andThen_ok, slicedAt, Int.toNat_natCast, Nat.mul_one]
  rw [if_neg (by omega)]
  have e : (⟨b, 0, none⟩ : Addr).add q = ⟨b, q, none⟩ := by unfold Addr.add; split <;> simp_all
  rw [e]

/-- Bytes of names alone. -/
def NamesS (D : ByteArray) : Prop := D.data.toList.all namB = true

set_option maxHeartbeats 1000000 in
theorem itoa (n : Int) (h0 : 0 < n) (h1 : n ≤ 65536) (w : World) :
    Calls Try.prog 9 #[.int .i64 n] w fun e w' => ∃ D : ByteArray, e = .returned (.string D) ∧ NamesS D ∧ D.size ≤ 24 ∧ Grown w w' := by
  have hd : decide (n ≤ 0) = false := decide_eq_false (by omega)
  go_enter Try.func9, Try.ntmps9
  go_wp2
  go_loopw [0, 4] (fun nv kv wr => ∃ (m q : Nat) (r : Int) (cur : Array Value) (ns : List Int), m + q = 24 ∧ 0 ≤ r ∧ r ≤ restMax m ∧ (1 ≤ m ∨ 0 < r) ∧ nv = .int .i64 r ∧ kv = .int .i64 q ∧ wr = w.alloc (.cells cur 30) ∧ Digits q cur ns) (fun nv _ _ => (intOf nv).toNat)
  case atStart => exact ⟨0, 24, n, _, List.replicate 24 0, rfl, by omega, h1, .inr h0, rfl, rfl, rfl, ⟨rfl, rfl, fun j j1 j2 => by omega⟩⟩
  case round =>
    obtain ⟨m, q, r, cur, ns, hmq, hr0, hr1, hor, rfl, rfl, rfl, hD⟩ := hrel
    have HD : Hid (Digits q cur ns) := hD
    have HM : Hid (m + q = 24) := hmq
    have HR : Hid (r ≤ restMax m) := hr1
    have HO : Hid (1 ≤ m ∨ 0 < r) := hor
    have hq24 : q ≤ 24 := by omega
    clear hD hmq hr1 hor
    by_cases hp : 0 < r
    · obtain ⟨hm4, hr⟩ := restMax_low m r hp HR.out
      have hq1 : 1 ≤ q := by have := HM.out; omega
      obtain ⟨v, hv⟩ : ∃ v, cur[q - 1]? = some v := ⟨_, Array.getElem?_eq_getElem (by rw [HD.out.row.size, HD.out.len]; omega)⟩
      have HS : Hid (Digits (q - 1) _ _) := HD.out.step hq1 hq24 _ (good_dec (r % 10) (by omega) (by omega))
      have HT : Hid (r / 10 ≤ restMax (m + 1)) := restMax_step m hm4 r hp HR.out
      go_wp2
      go_roundw
      case rel => exact ⟨m + 1, q - 1, r / 10, _, _, by have := HM.out; omega, by omega, HT.out, .inl (by omega), rfl, by go_num, rfl, HS.out⟩
      case measure => simp [intOf]; omega
    · have hq : q < 24 := by have := HM.out; have := HO.out; omega
      have hsl := fun W : World => tail30 W w.heap.size q hq
      have hlen : (ns.drop q).length = 24 - q := by rw [List.length_drop, HD.out.len]
      have hcv := toStr (w.alloc (.cells cur 30)) w.heap.size q (24 - q) (ns.drop q) (HD.out.row.cell w 30 q)
      rw [hlen] at hcv
      have HF : Hid (NamesS (ofInts (ns.drop q)) ∧ (ofInts (ns.drop q)).size ≤ 24) := HD.out.names
      generalize ofInts (ns.drop q) = D at hcv HF
      clear hlen HD HM HR HO
      go_wp2
      go_ret
      exact ⟨D, rfl, HF.out.1, HF.out.2, (Grown.refl w).alloc _ _⟩

end Go.Proofs.Qxb6619147a

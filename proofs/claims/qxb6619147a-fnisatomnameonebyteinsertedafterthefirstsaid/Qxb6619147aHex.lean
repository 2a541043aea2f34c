/-
  SEAT b6619147a: 'zzHexName': a letter and behind it hex digits: an atom name.
-/
import Derived.Test.Qxb6619147aWalks
import Derived.Deep.OwnRows
import Derived.WalkLawsBesides
namespace Go.Proofs.Qxb6619147a
open Go.RowKit Plain

theorem Try.info5 : (Try.prog.info? 5).map (fun i => (i.zero, i.size, i.bytes)) = some (some (.int .u8 0), 1, 1) := by kernel_rfl

/-! ### Rows of bytes, and the string made of one -/
def ofInts (ns : List Int) : ByteArray := ns.foldl (fun r n => r.push (UInt8.ofNat n.toNat)) ByteArray.empty

theorem ofInts_go (ns : List Int) : ∀ s : ByteArray, (ns.foldl (fun r n => r.push (UInt8.ofNat n.toNat)) s).data.toList = s.data.toList ++ ns.map fun n => UInt8.ofNat n.toNat := by
  induction ns with
  | nil => intro s; simp
  | cons n ns ih =>
    intro s
    rw [List.foldl_cons, ih]
    show (s.data.push _).toList ++ _ = _
    simp
theorem ofInts_list (ns : List Int) : (ofInts ns).data.toList = ns.map fun n => UInt8.ofNat n.toNat := by
  unfold ofInts
  rw [ofInts_go]
  rfl
theorem ofInts_size (ns : List Int) : (ofInts ns).size = ns.length := by
  have h : (ofInts ns).size = (ofInts ns).data.toList.length := rfl
  rw [h, ofInts_list]
  simp

theorem toStr (w : World) (b off cap : Nat) (ns : List Int) (hc : ∀ (j : Nat) v, (ns.map (Value.int .u8))[j]? = some v → w.cell? ⟨b, off + j, none⟩ = some v) :
    (convert 26 9 (.slice (some ⟨b, off, none⟩) ns.length cap)).run Try.prog w = .ok (.string (ofInts ns)) w := by
  rw [run_convert_bytes_string w 26 9 5 _ _ _ Try.underlying26 Try.underlying5 Try.underlying9]
  have hl := run_loadCells_list (P := Try.prog) w ⟨b, off, none⟩ (ns.map (Value.int .u8)) (by
    intro j v hj
    have e : (⟨b, off, none⟩ : Addr).add j = ⟨b, off + j, none⟩ := by unfold Addr.add; split <;> simp_all
    rw [e]
    exact hc j v hj)
  rw [List.length_map] at hl
  exact run_bytesToString w _ _ _ ns hl

/-- A row of bytes. -/
def RowOf (cur : Array Value) (ns : List Int) : Prop := cur = (ns.map (Value.int .u8)).toArray

theorem RowOf.set {cur : Array Value} {ns : List Int} (h : RowOf cur ns) (i : Nat) (v : Int) : RowOf (cur.setIfInBounds i (.int .u8 v)) (ns.set i v) := by
  unfold RowOf at *
  rw [h, List.setIfInBounds_toArray, List.map_set]
theorem RowOf.size {cur : Array Value} {ns : List Int} (h : RowOf cur ns) : cur.size = ns.length := by
  rw [show cur = _ from h]; simp
theorem RowOf.made (n : Nat) : RowOf (madeCells #[.int .u8 0] n) (List.replicate n 0) := by
  unfold RowOf
  apply Array.ext
  · simp [size_madeCells]
  · intro i h1 h2
    simp [madeCells, Nat.mod_one]
theorem RowOf.cell {cur : Array Value} {ns : List Int} (h : RowOf cur ns) (w : World) (t : TypeId) (off : Nat) :
    ∀ (j : Nat) v, ((ns.drop off).map (Value.int .u8))[j]? = some v → (w.alloc (.cells cur t)).cell? ⟨w.heap.size, off + j, none⟩ = some v := by
  intro j v hj
  have e : (w.alloc (.cells cur t)).heap[w.heap.size]? = some (.cells cur t) := (MapKept.heap_alloc w _).1
  simp only [World.cell?, e, Option.isSome_none, Bool.false_eq_true, if_false]
  rw [show cur = _ from h]
  simpa using hj

theorem made26 (n : Nat) (hn : n ≤ 65536) (w : World) :
    (Instr.makeSlice 26 (.int .i64 (1 + 2 * (n : Int))) (.int .i64 (1 + 2 * (n : Int)))).run Try.prog w = .ok (.slice (some ⟨w.heap.size, 0, none⟩) (1 + 2 * n) (1 + 2 * n)) (w.alloc (.cells (madeCells #[.int .u8 0] (1 + 2 * n)) 5)) := by
  have h := run_make_row' (P := Try.prog) 26 5 (.int .u8 0) 1 Try.underlying26 Try.info5 rfl .i64 .i64 (1 + 2 * n) (by omega) (by omega) w
  rw [show ((1 + 2 * n : Nat) : Int) = 1 + 2 * (n : Int) by omega] at h
  exact h

/-- A byte that may stand in a name. -/
def good (n : Int) : Prop := 0 ≤ n ∧ n ≤ 255 ∧ namI n = true

/-- What the row holds behind k rounds. -/
structure Built (lead : Int) (n k : Nat) (cur : Array Value) (ns : List Int) : Prop where
  row : RowOf cur ns
  len : ns.length = 1 + 2 * n
  first : ns.getD 0 0 = lead
  rest : ∀ j, 1 ≤ j → j < 1 + 2 * k → good (ns.getD j 0)

theorem Built.start (lead : Int) (n : Nat) {cur : Array Value} (h : RowOf cur (List.replicate (1 + 2 * n) 0)) : Built lead n 0 (cur.setIfInBounds 0 (.int .u8 lead)) ((List.replicate (1 + 2 * n) 0).set 0 lead) :=
  ⟨h.set 0 lead, by simp, by rw [List.getD_eq_getElem?_getD, List.getElem?_set_self (by simp; omega)]; rfl, fun j h1 h2 => by omega⟩

theorem getD_set_ne (ns : List Int) (i j : Nat) (v : Int) (h : i ≠ j) : (ns.set i v).getD j 0 = ns.getD j 0 := by
  rw [List.getD_eq_getElem?_getD, List.getD_eq_getElem?_getD, List.getElem?_set_ne h]
theorem getD_set_eq (ns : List Int) (i : Nat) (v : Int) (h : i < ns.length) : (ns.set i v).getD i 0 = v := by
  rw [List.getD_eq_getElem?_getD, List.getElem?_set_self h]; rfl

theorem Built.step {lead : Int} {n k : Nat} {cur : Array Value} {ns : List Int} (h : Built lead n k cur ns) (hk : k < n) (a b : Int) (ha : good a) (hb : good b) :
    Built lead n (k + 1) ((cur.setIfInBounds (1 + 2 * k) (.int .u8 a)).setIfInBounds (2 + 2 * k) (.int .u8 b)) ((ns.set (1 + 2 * k) a).set (2 + 2 * k) b) := by
  have hl := h.len
  refine ⟨(h.row.set _ _).set _ _, by simp [hl], ?_, fun j h1 h2 => ?_⟩
  · rw [getD_set_ne _ _ _ _ (by omega), getD_set_ne _ _ _ _ (by omega)]
    exact h.first
  · by_cases e2 : 2 + 2 * k = j
    · subst e2
      rw [getD_set_eq _ _ _ (by simp; omega)]
      exact hb
    · rw [getD_set_ne _ _ _ _ e2]
      by_cases e1 : 1 + 2 * k = j
      · subst e1
        rw [getD_set_eq _ _ _ (by omega)]
        exact ha
      · rw [getD_set_ne _ _ _ _ e1]
        exact h.rest j h1 (by omega)

theorem low_all : ∀ k : Fin 16, (({ data := #[48, 49, 50, 51, 52, 53, 54, 55, 56, 57, 97, 98, 99, 100, 101, 102] } : ByteArray)[k.val]'k.isLt).toNat = if k.val < 10 then 48 + k.val else 87 + k.val := by
  decide +kernel
theorem good_digit (k : Nat) (hk : k < 16) : ∀ h, good ((({ data := #[48, 49, 50, 51, 52, 53, 54, 55, 56, 57, 97, 98, 99, 100, 101, 102] } : ByteArray)[k]'h).toNat : Int) := by
  intro h
  have e := low_all ⟨k, hk⟩
  simp only at e
  rw [e]
  unfold good namI ltrI
  by_cases h10 : k < 10
  · rw [if_pos h10]
    refine ⟨by omega, by omega, ?_⟩
    simp
    omega
  · rw [if_neg h10]
    refine ⟨by omega, by omega, ?_⟩
    simp
    omega

theorem byte_back (n : Int) (h0 : 0 ≤ n) (h1 : n ≤ 255) : ((UInt8.ofNat n.toNat).toNat : Int) = n := by
  rw [UInt8.toNat_ofNat']
  omega

/-- A letter and bytes of names: an atom. -/
theorem atom_ints (ns : List Int) (hn : 0 < ns.length) (h0 : 0 ≤ ns.getD 0 0) (h1 : ns.getD 0 0 ≤ 255) (hl : ltrI (ns.getD 0 0) = true) (hr : ∀ j, 1 ≤ j → j < ns.length → good (ns.getD j 0)) : atom (ofInts ns).data.toList = true := by
  rw [ofInts_list]
  cases ns with
  | nil => simp at hn
  | cons a r =>
    simp only [List.getD_cons_zero] at h0 h1 hl
    simp only [List.map_cons, atom, Bool.and_eq_true]
    refine ⟨by unfold ltrB; rw [byte_back a h0 h1]; exact hl, ?_⟩
    rw [List.all_map, List.all_eq_true]
    intro x hx
    obtain ⟨j, hj, rfl⟩ := List.getElem_of_mem hx
    have g := hr (j + 1) (by omega) (by simpa using hj)
    rw [List.getD_cons_succ, List.getD_eq_getElem?_getD, List.getElem?_eq_getElem hj, Option.getD_some] at g
    show namB _ = true
    unfold namB
    rw [byte_back _ g.1 g.2.1]
    exact g.2.2

theorem Built.atom {lead : Int} {n k : Nat} {cur : Array Value} {ns : List Int} (h : Built lead n k cur ns) (hk : k = n) (hn : n ≤ 65536) (h0 : 0 ≤ lead) (h1 : lead ≤ 255) (hl : ltrI lead = true) :
    Plain.atom (ofInts ns).data.toList = true ∧ (ofInts ns).size ≤ 131073 := by
  subst hk
  have hlen := h.len
  have hf := h.first
  refine ⟨atom_ints ns (by omega) (by omega) (by omega) (by rw [hf]; exact hl) fun j j1 j2 => h.rest j j1 (by omega), ?_⟩
  rw [ofInts_size]
  omega

set_option maxHeartbeats 1000000 in
theorem hexName (lead : Int) (t : ByteArray) (ht : t.size ≤ 65536) (hl0 : 0 ≤ lead) (hl1 : lead ≤ 255) (hl : ltrI lead = true) (w : World) :
    Calls Try.prog 6 #[.int .u8 lead, .string t] w fun e w' => ∃ H : ByteArray, e = .returned (.string H) ∧ atom H.data.toList = true ∧ H.size ≤ 131073 ∧ Grown w w' := by
  have hmk := made26 t.size ht
  obtain ⟨cur, hcur⟩ : ∃ cur, cur = madeCells #[.int .u8 0] (1 + 2 * t.size) := ⟨_, rfl⟩
  have R0 : RowOf cur (List.replicate (1 + 2 * t.size) 0) := by rw [hcur]; exact RowOf.made _
  rw [← hcur] at hmk
  clear hcur
  obtain ⟨v0, hv0⟩ : ∃ v, cur[0]? = some v := ⟨_, Array.getElem?_eq_getElem (by rw [R0.size]; simp; omega)⟩
  have HR0 : Hid (RowOf cur (List.replicate (1 + 2 * t.size) 0)) := R0
  clear R0
  go_enter Try.func6, Try.ntmps6
  go_wp2
  go_loopw [6] (fun i wr => ∃ (k : Nat) (cur : Array Value) (ns : List Int), k ≤ t.size ∧ i = .int .i64 k ∧ wr = w.alloc (.cells cur 5) ∧ Built lead t.size k cur ns) (fun i _ => t.size - (intOf i).toNat)
  case atStart => exact ⟨0, _, _, by omega, rfl, rfl, Built.start lead t.size HR0.out⟩
  case round =>
    obtain ⟨k, cur1, ns, hk, rfl, rfl, hB⟩ := hrel
    have HB : Hid (Built lead t.size k cur1 ns) := hB
    clear hB hv0 hmk HR0
    by_cases hlt : k < t.size
    · have hc15 := u8_and15 (x := (t[k].toNat : Int)) (by omega) (by have := t[k].toNat_lt; omega)
      have hcb : (t[k].toNat : Int) ≤ 255 := by have := t[k].toNat_lt; omega
      have hq1 : t[k].toNat / 16 < 16 := by have := t[k].toNat_lt; omega
      have hq2 : t[k].toNat % 16 < 16 := by omega
      obtain ⟨v1, hv1⟩ : ∃ v, cur1[1 + 2 * k]? = some v := ⟨_, Array.getElem?_eq_getElem (by rw [HB.out.row.size, HB.out.len]; omega)⟩
      obtain ⟨v2, hv2⟩ : ∃ v, cur1[2 + 2 * k]? = some v := ⟨_, Array.getElem?_eq_getElem (by rw [HB.out.row.size, HB.out.len]; omega)⟩
      have HG : Hid (Built lead t.size (k + 1) _ _) := HB.out.step hlt _ _ (good_digit (t[k].toNat / 16) hq1 hq1) (good_digit (t[k].toNat % 16) hq2 hq2)
      go_wp2
      go_roundw
      case rel => exact ⟨k + 1, _, _, by omega, by go_num, rfl, HG.out⟩
      case measure => simp [intOf]; omega
    · have hk2 : k = t.size := by omega
      have hcv := toStr (w.alloc (.cells cur1 5)) w.heap.size 0 (1 + 2 * t.size) ns (by have h := HB.out.row.cell w 5 0; simpa using h)
      rw [HB.out.len] at hcv
      have HF : Hid (atom (ofInts ns).data.toList = true ∧ (ofInts ns).size ≤ 131073) := HB.out.atom hk2 ht hl0 hl1 hl
      generalize ofInts ns = H at hcv HF
      clear HB hk2
      go_wp2
      go_ret
      exact ⟨H, rfl, HF.out.1, HF.out.2, (Grown.refl w).alloc _ _⟩

end Go.Proofs.Qxb6619147a

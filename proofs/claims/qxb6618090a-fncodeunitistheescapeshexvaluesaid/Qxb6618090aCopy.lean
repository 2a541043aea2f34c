/-
  SEAT b6618090a: 'zzc := make([]byte, len(s)); copy(zzc, s)': the new row holds the bytes of the old one.
-/
import Derived.Test.Qxb6618090aWalks
import Derived.Deep.OwnRows
import Derived.OpenShut
namespace Go.Proofs.Qxb6618090a
open Go.RowKit Plain

theorem Try.info5 : (Try.prog.info? 5).map (fun i => (i.zero, i.size, i.bytes)) = some (some (.int .u8 0), 1, 1) := by kernel_rfl
theorem Try.size5 : (Try.prog.info? 5).map (·.size) = some 1 := by kernel_rfl

theorem made (n : Nat) (hn : n ≤ 1048576) (w : World) :
    (Instr.makeSlice 22 (.int .i64 (n : Int)) (.int .i64 (n : Int))).run Try.prog w = .ok (.slice (some ⟨w.heap.size, 0, none⟩) n n) (w.alloc (.cells (madeCells #[.int .u8 0] n) 5)) :=
  run_make_row' 22 5 (.int .u8 0) 1 Try.underlying22 Try.info5 rfl .i64 .i64 n (by omega) (by omega) w

/-- Behind the copy: the new row's cells are the old row's first 'n'; nothing old has turned. -/
theorem copied (x : Addr) (n cap : Nat) (f : Nat → Int) (w : World) (hcell : ∀ j, j < n → w.cell? (x.add j) = some (.int .u8 (f j))) :
    ∃ w2, (∀ ty, (Builtin.copy_ #[22, 22] ty #[.slice (some ⟨w.heap.size, 0, none⟩) n n, .slice (some x) n cap]).run Try.prog (w.alloc (.cells (madeCells #[.int .u8 0] n) 5)) = .ok (.int .i64 (n : Int)) w2) ∧
      (∀ j, j < n → w2.cell? ⟨w.heap.size, j, none⟩ = some (.int .u8 (f j))) ∧ Below w.heap.size w w2 ∧ w2.heap.size = w.heap.size + 1 := by
  have hg : (w.alloc (.cells (madeCells #[.int .u8 0] n) 5)).heap[w.heap.size]? = some (.cells (madeCells #[.int .u8 0] n) 5 (0, 0)) := (MapKept.heap_alloc w _).1
  have hsz : (madeCells #[Value.int .u8 0] n).size = n := size_madeCells _ _
  have hlen : ((List.range n).map fun j => Value.int .u8 (f j)).length = n := by simp
  have hsrc : ∀ (j : Nat) v, ((List.range n).map fun j => Value.int .u8 (f j))[j]? = some v → (w.alloc (.cells (madeCells #[.int .u8 0] n) 5)).cell? (x.add j) = some v := by
    intro j v hj
    have hjn : j < n := by
      have := (List.getElem?_eq_some_iff.1 hj).1
      simpa using this
    have hv : v = .int .u8 (f j) := by
      rw [List.getElem?_map, List.getElem?_range hjn] at hj
      simpa using hj.symm
    subst hv
    have h1 := hcell j hjn
    have hlt : (x.add j).block < w.heap.size := block_lt_of_cell h1
    rw [Below.cell ((Below.refl w.heap.size w).alloc (Nat.le_refl _) _) hlt]
    exact h1
  have run := fun ty => run_copy_row (P := Try.prog) (w.alloc (.cells (madeCells #[.int .u8 0] n) 5)) 22 22 ty 5 w.heap.size 0 n n x n cap (madeCells #[.int .u8 0] n) 5 _ Try.underlying22 Try.size5 hg (by rw [hlen]; exact (Nat.min_self n).symm) hsrc (by rw [hlen, hsz]; omega) (by
    intro v hv
    obtain ⟨j, _, rfl⟩ := List.mem_map.1 hv
    rfl)
  generalize hcs : ((List.range n).map fun j => Value.int .u8 (f j)) = cs at *
  refine ⟨_, fun ty => (run ty).trans (by rw [hlen]; rfl), ?_, ?_, ?_⟩
  · intro j hj
    rw [cell_setRow_same _ _ _ _ _ _ _ hg]
    subst hcs
    simp
    rw [List.getElem?_append_left (by simpa using hj)]
    simp [hj]
  · refine ((Below.refl w.heap.size w).alloc (Nat.le_refl _) _).trans ⟨rfl, rfl, rfl, by simp, fun k hk => setRow_other _ _ k _ (by omega)⟩
  · simp

/-- Bytes lie between 0 and 255; so does what is read beyond the end. -/
theorem range_of_wf {zs : List Int} (h : ∀ n ∈ zs, (Lit.int .u8 n).wf = true) (j : Nat) : 0 ≤ zs.getD j 0 ∧ zs.getD j 0 ≤ 255 := by
  rw [List.getD_eq_getElem?_getD]
  cases hj : zs[j]? with
  | none => simp
  | some v =>
    have hv := h v (List.mem_of_getElem? hj)
    have := bounds_u8 hv
    simpa using this

end Go.Proofs.Qxb6618090a

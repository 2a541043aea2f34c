/-
  SEAT b6619147a: THE PLAIN MATHEMATICS OF 'composite.IsAtomName': lists of bytes alone, no Go in sight.
-/
namespace Go.Proofs.Qxb6619147a.Plain

def ltrI (c : Int) : Bool := decide (97 ≤ c ∧ c ≤ 122) || decide (65 ≤ c ∧ c ≤ 90)
def namI (c : Int) : Bool := ltrI c || (decide (48 ≤ c ∧ c ≤ 57) || decide (c = 95))

def ltrB (c : UInt8) : Bool := ltrI (c.toNat : Int)
def namB (c : UInt8) : Bool := namI (c.toNat : Int)

/-- What 'IsAtomName' answers. -/
def atom : List UInt8 → Bool
  | [] => false
  | c :: r => ltrB c && r.all namB

theorem atom_snoc (s t : List UInt8) (hs : s ≠ []) : atom (s ++ t) = (atom s && t.all namB) := by
  cases s with
  | nil => exact absurd rfl hs
  | cons c r => simp [atom, Bool.and_assoc]

/-- The join at any cut. -/
theorem atom_join (s t : List UInt8) (hs : s ≠ []) : atom (s ++ t) = (atom s && atom (s.take 1 ++ t)) := by
  cases s with
  | nil => exact absurd rfl hs
  | cons c r =>
    simp only [List.cons_append, atom, List.all_append, List.take_succ_cons, List.take_zero, List.nil_append]
    cases ltrB c <;> cases r.all namB <;> simp

/-- A name, and behind it a text: as the name's first letter and the text. -/
theorem atom_head (h t : List UInt8) (hh : atom h = true) : atom (h ++ t) = atom (h.take 1 ++ t) := by
  have hn : h ≠ [] := by intro e; rw [e] at hh; cases hh
  rw [atom_join h t hn, hh, Bool.true_and]

/-- One byte put in behind the first. -/
theorem atom_insert (s : List UInt8) (i : Nat) (c : UInt8) (h1 : 1 ≤ i) (h2 : i ≤ s.length) :
    atom (s.take i ++ [c] ++ s.drop i) = (atom s && atom (s.take 1 ++ [c])) := by
  cases s with
  | nil => simp at h2; omega
  | cons a r =>
    obtain ⟨j, rfl⟩ : ∃ j, i = j + 1 := ⟨i - 1, by omega⟩
    have e : r.all namB = ((r.take j).all namB && (r.drop j).all namB) := by
      conv => lhs; rw [← List.take_append_drop j r]
      rw [List.all_append]
    simp only [List.take_succ_cons, List.drop_succ_cons, List.cons_append, atom, List.all_append, List.take_zero, List.nil_append, e, List.all_cons, List.all_nil, Bool.and_true]
    cases ltrB a <;> cases (r.take j).all namB <;> cases (r.drop j).all namB <;> cases namB c <;> rfl

end Go.Proofs.Qxb6619147a.Plain

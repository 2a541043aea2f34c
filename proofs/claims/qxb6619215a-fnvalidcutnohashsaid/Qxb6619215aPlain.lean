/-
  SEAT b6619215a: THE PLAIN MATHEMATICS OF 'names.Valid': lists of bytes alone, no Go in sight.
-/
namespace Go.Proofs.Qxb6619215a.Plain

/-- The alphabet, of a number. -/
def okI (c : Int) : Bool :=
  decide (97 ≤ c ∧ c ≤ 122) || decide (65 ≤ c ∧ c ≤ 90) || decide (48 ≤ c ∧ c ≤ 57) || decide (c = 46) || decide (c = 95) || decide (c = 45)

/-- The alphabet, of a byte. -/
def okB (c : UInt8) : Bool := okI (c.toNat : Int)

def eph : List UInt8 := [35, 101, 112, 104, 101, 109, 101, 114, 97, 108]

def trim (l : List UInt8) : List UInt8 := if eph <:+ l then l.take (l.length - 10) else l

def valid (l : List UInt8) : Bool := decide (l.length ≤ 64) && (!(trim l).isEmpty && (trim l).all okB)

def hasHash (l : List UInt8) : Bool := l.any fun c => c == 35

/-- How many allowed bytes stand ahead. -/
def pre (l : List UInt8) : Nat := (l.takeWhile okB).length

def model (l : List UInt8) : Bool := decide (l.length ≤ 64) && (decide (1 ≤ pre l) && (decide (pre l = l.length) || decide (l.drop (pre l) = eph)))

theorem okB_hash : okB 35 = false := by decide

theorem okI_big (c : Int) (h : 128 ≤ c) : okI c = false := by
  simp [okI]
  omega

theorem eph_length : eph.length = 10 := rfl

theorem trim_append (l : List UInt8) : trim (l ++ eph) = l := by
  unfold trim
  rw [if_pos (List.suffix_append l eph)]
  simp [eph_length]

theorem trim_none (l : List UInt8) (h : ¬ eph <:+ l) : trim l = l := by unfold trim; rw [if_neg h]

theorem hash_mem_of_suffix (l : List UInt8) (h : eph <:+ l) : (35 : UInt8) ∈ l := by
  obtain ⟨q, rfl⟩ := h
  simp [eph]

theorem no_suffix_of_all (l : List UInt8) (h : l.all okB = true) : ¬ eph <:+ l := by
  intro hs
  have := (List.all_eq_true.1 h) _ (hash_mem_of_suffix l hs)
  rw [okB_hash] at this
  cases this

theorem no_suffix_of_noHash (l : List UInt8) (h : hasHash l = false) : ¬ eph <:+ l := by
  intro hs
  have hm := hash_mem_of_suffix l hs
  have : hasHash l = true := by
    unfold hasHash
    exact List.any_eq_true.2 ⟨_, hm, by decide⟩
  rw [h] at this
  cases this

theorem noHash_of_all (l : List UInt8) (h : l.all okB = true) : hasHash l = false := by
  unfold hasHash
  rw [List.any_eq_false]
  intro x hx hq
  have e : x = 35 := by simpa using hq
  subst e
  have := (List.all_eq_true.1 h) _ hx
  rw [okB_hash] at this
  cases this

/-- A name without '#': its letters alone. -/
theorem valid_noHash (l : List UInt8) (h : hasHash l = false) : valid l = (decide (l.length ≤ 64) && (!l.isEmpty && l.all okB)) := by
  unfold valid
  rw [trim_none l (no_suffix_of_noHash l h)]

theorem valid_append (l : List UInt8) : valid (l ++ eph) = (decide (l.length ≤ 54) && (!l.isEmpty && l.all okB)) := by
  unfold valid
  rw [trim_append]
  congr 1
  simp [eph_length]

theorem isEmpty_len (l : List UInt8) : (!l.isEmpty) = decide (1 ≤ l.length) := by
  cases l <;> simp

/-! ### Law 2 -/
theorem eph_want (l : List UInt8) : valid (l ++ eph) = (decide (1 ≤ l.length) && (decide (l.length ≤ 54) && l.all okB)) := by
  rw [valid_append, isEmpty_len]
  cases decide (l.length ≤ 54) <;> cases decide (1 ≤ l.length) <;> simp

theorem eph_plain (l : List UInt8) : valid (l ++ eph) = (valid l && (decide (l.length ≤ 54) && !hasHash l)) := by
  rw [valid_append]
  cases hh : hasHash l with
  | false =>
    rw [valid_noHash l hh]
    by_cases h54 : l.length ≤ 54
    · have h64 : l.length ≤ 64 := by omega
      simp [h54, h64]
    · simp [h54]
  | true =>
    have : l.all okB = false := by
      cases ha : l.all okB with
      | false => rfl
      | true => rw [noHash_of_all l ha] at hh; cases hh
    simp [this]

/-! ### Law 3 -/
theorem hasHash_take (l : List UInt8) (i : Nat) (h : hasHash l = false) : hasHash (l.take i) = false := by
  unfold hasHash at *
  rw [List.any_eq_false] at *
  intro x hx
  exact h x (List.mem_of_mem_take hx)

theorem hasHash_drop (l : List UInt8) (i : Nat) (h : hasHash l = false) : hasHash (l.drop i) = false := by
  unfold hasHash at *
  rw [List.any_eq_false] at *
  intro x hx
  exact h x (List.mem_of_mem_drop hx)

theorem cut_want (l : List UInt8) (h : hasHash l = false) (hl : 1 ≤ l.length) : valid l = (decide (l.length ≤ 64) && l.all okB) := by
  rw [valid_noHash l h, isEmpty_len]
  simp [hl]

theorem cut_two (l : List UInt8) (i : Nat) (h : hasHash l = false) (h1 : 1 ≤ i) (h2 : i < l.length) :
    valid l = (decide (l.length ≤ 64) && (valid (l.take i) && valid (l.drop i))) := by
  rw [cut_want l h (by omega), cut_want (l.take i) (hasHash_take l i h) (by simp; omega), cut_want (l.drop i) (hasHash_drop l i h) (by simp; omega)]
  by_cases h64 : l.length ≤ 64
  · have e1 : (l.take i).length ≤ 64 := by simp; omega
    have e2 : (l.drop i).length ≤ 64 := by simp; omega
    have e3 : l.all okB = ((l.take i).all okB && (l.drop i).all okB) := by
      conv => lhs; rw [← List.take_append_drop i l]
      rw [List.all_append]
    rw [e3, decide_eq_true h64, decide_eq_true e1, decide_eq_true e2]
    simp
  · simp [h64]

/-! ### Law 1 -/
theorem pre_le (l : List UInt8) : pre l ≤ l.length := by
  unfold pre
  exact (List.takeWhile_prefix okB).length_le

theorem pre_append (q : List UInt8) (x : UInt8) (r : List UInt8) (hq : q.all okB = true) (hx : okB x = false) : pre (q ++ x :: r) = q.length := by
  unfold pre
  rw [List.takeWhile_append_of_pos (List.all_eq_true.1 hq)]
  simp [hx]

theorem pre_all (l : List UInt8) (h : l.all okB = true) : pre l = l.length := by
  unfold pre
  have := List.takeWhile_append_of_pos (l₂ := []) (List.all_eq_true.1 h)
  simp at this
  rw [this]

/-- A list: all letters, or letters and then one that is none. -/
theorem parted (l : List UInt8) : l.all okB = true ∨ ∃ q x r, l = q ++ x :: r ∧ q.all okB = true ∧ okB x = false := by
  induction l with
  | nil => exact .inl rfl
  | cons c l ih =>
    cases hc : okB c with
    | false => exact .inr ⟨[], c, l, rfl, rfl, hc⟩
    | true =>
      rcases ih with ih | ⟨q, x, r, rfl, hq, hx⟩
      · exact .inl (by simp only [List.all_cons, hc, ih]; rfl)
      · exact .inr ⟨c :: q, x, r, rfl, by simp only [List.all_cons, hc, hq]; rfl, hx⟩

theorem valid_model (l : List UInt8) : valid l = model l := by
  unfold model
  rcases parted l with h | ⟨q, x, r, rfl, hq, hx⟩
  · rw [valid_noHash l (noHash_of_all l h), pre_all l h, isEmpty_len, h]
    simp
  · rw [pre_append q x r hq hx]
    have hd : (q ++ x :: r).drop q.length = x :: r := by simp
    rw [hd]
    by_cases he : x :: r = eph
    · rw [he, valid_append, hq, isEmpty_len]
      simp [eph_length]
    · have h1 : ¬ q.length = (q ++ x :: r).length := by simp
      rw [decide_eq_false he, decide_eq_false h1]
      simp only [Bool.or_self, Bool.and_false]
      by_cases hs : eph <:+ (q ++ x :: r)
      · obtain ⟨p, hp⟩ := hs
        rw [← hp, valid_append]
        cases hpa : p.all okB with
        | false => simp
        | true =>
          exfalso
          have e1 : pre (q ++ x :: r) = p.length := by
            rw [← hp]
            exact pre_append p 35 _ hpa okB_hash
          rw [pre_append q x r hq hx] at e1
          have e2 := congrArg (List.drop q.length) hp
          rw [hd, e1] at e2
          simp at e2
          exact he e2.symm
      · unfold valid
        rw [trim_none _ hs]
        have : (q ++ x :: r).all okB = false := by simp [hx]
        rw [this]
        simp

/-- What the loop over the prefix tells of its end. -/
theorem pre_of (l : List UInt8) (k : Nat) (hk : k ≤ l.length) (h : (l.take k).all okB = true) (hx : ∀ x r, l.drop k = x :: r → okB x = false) : pre l = k := by
  have e := List.take_append_drop k l
  cases hd : l.drop k with
  | nil =>
    have hl : l.length ≤ k := by simpa using hd
    have hkk : k = l.length := by omega
    have ht : l.take k = l := List.take_of_length_le hl
    rw [ht] at h
    rw [pre_all l h, hkk]
  | cons x r =>
    rw [hd] at e
    rw [← e, pre_append _ x r h (hx x r hd)]
    simp
    omega

end Go.Proofs.Qxb6619215a.Plain

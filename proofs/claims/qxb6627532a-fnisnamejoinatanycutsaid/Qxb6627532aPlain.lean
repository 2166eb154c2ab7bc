/-
  The plain functions of this seat, and their laws: no Go in sight.
-/
namespace Go.Proofs.Qxb6627532a.Nm

/-- 'isHeadByte' on numbers. -/
def headB (n : Int) : Bool := decide (n = 95 ∨ (97 ≤ n ∧ n ≤ 122) ∨ (65 ≤ n ∧ n ≤ 90))
/-- 'isTailByte' on numbers. -/
def tailB (n : Int) : Bool := decide (n = 95 ∨ (97 ≤ n ∧ n ≤ 122) ∨ (65 ≤ n ∧ n ≤ 90) ∨ (48 ≤ n ∧ n ≤ 57))

def headU (c : UInt8) : Bool := headB (c.toNat : Int)
def tailU (c : UInt8) : Bool := tailB (c.toNat : Int)

/-- 'allTailBytes' on lists of bytes. -/
def allTail (l : List UInt8) : Bool := l.all tailU

/-- 'IsName' on lists of bytes. -/
def isName (l : List UInt8) : Bool :=
  match l with
  | [] => false
  | c :: _ => headU c && allTail l

theorem tail_of_head {c : UInt8} (h : headU c = true) : tailU c = true := by
  simp [headU, tailU, headB, tailB] at h ⊢
  omega

theorem headB_true {n : Int} (h : n = 95 ∨ (97 ≤ n ∧ n ≤ 122) ∨ (65 ≤ n ∧ n ≤ 90)) : headB n = true := decide_eq_true h
theorem headB_false {n : Int} (h : ¬ (n = 95 ∨ (97 ≤ n ∧ n ≤ 122) ∨ (65 ≤ n ∧ n ≤ 90))) : headB n = false := decide_eq_false h
theorem tailB_true {n : Int} (h : n = 95 ∨ (97 ≤ n ∧ n ≤ 122) ∨ (65 ≤ n ∧ n ≤ 90) ∨ (48 ≤ n ∧ n ≤ 57)) : tailB n = true := decide_eq_true h
theorem tailB_false {n : Int} (h : ¬ (n = 95 ∨ (97 ≤ n ∧ n ≤ 122) ∨ (65 ≤ n ∧ n ≤ 90) ∨ (48 ≤ n ∧ n ≤ 57))) : tailB n = false := decide_eq_false h

theorem allTail_append (a b : List UInt8) : allTail (a ++ b) = (allTail a && allTail b) := List.all_append

/-- The verdict on a name, as the law says it. -/
theorem isName_cons (c : UInt8) (l : List UInt8) : isName (c :: l) = (headU c && allTail l) := by
  simp only [isName, allTail, List.all_cons]
  cases h : headU c
  · simp
  · simp [tail_of_head h]

theorem head95 : headU 95 = true := by decide

theorem isName_under (l : List UInt8) : isName (95 :: l) = allTail l := by
  rw [isName_cons, head95, Bool.true_and]

/-- One byte more that may stand there. -/
theorem allTail_false {l : List UInt8} {k : Nat} (h : k < l.length) (hc : tailU (l[k]) = false) : allTail l = false := by
  unfold allTail
  rw [List.all_eq_false]
  exact ⟨l[k], List.getElem_mem h, by simp [hc]⟩

theorem isName_false_of_tail {l : List UInt8} (h : allTail l = false) : isName l = false := by
  cases l with
  | nil => rfl
  | cons c l => simp [isName, h]

theorem isName_false_of_head {l : List UInt8} (h : 0 < l.length) (hc : headU (l[0]) = false) : isName l = false := by
  cases l with
  | nil => rfl
  | cons c l => simp at hc; simp [isName, hc]

theorem isName_true {l : List UInt8} (h : 0 < l.length) (hc : headU (l[0]) = true) (ha : allTail l = true) : isName l = true := by
  cases l with
  | nil => simp at h
  | cons c l => simp at hc; simp [isName, hc, ha]

end Go.Proofs.Qxb6627532a.Nm

/-
  THE PLAIN LAW OF THE PHASES: no Go in sight: names as lists of bytes.
-/
namespace Go.Proofs.Qxb6616092aMods.fnPhaseFinalIsLifecycleEnd

/-- the k-th phase -/
def phL : Nat → List UInt8
  | 0 => [78, 101, 119]
  | 1 => [65, 99, 99, 101, 112, 116, 101, 100]
  | 2 => [80, 114, 101, 112, 97, 114, 101, 100]
  | 3 => [73, 110, 80, 114, 111, 103, 114, 101, 115, 115]
  | 4 => [67, 97, 110, 99, 101, 108, 105, 110, 103]
  | 5 => [67, 97, 110, 99, 101, 108, 101, 100]
  | 6 => [67, 111, 109, 112, 108, 101, 116, 101, 100]
  | 7 => [70, 97, 105, 108, 101, 100]
  | _ => []

/-- where the k-th move starts -/
def frL : Nat → List UInt8
  | 0 => []
  | 1 => []
  | 2 => [78, 101, 119]
  | 3 => [78, 101, 119]
  | 4 => [65, 99, 99, 101, 112, 116, 101, 100]
  | 5 => [65, 99, 99, 101, 112, 116, 101, 100]
  | 6 => [65, 99, 99, 101, 112, 116, 101, 100]
  | 7 => [80, 114, 101, 112, 97, 114, 101, 100]
  | 8 => [80, 114, 101, 112, 97, 114, 101, 100]
  | 9 => [80, 114, 101, 112, 97, 114, 101, 100]
  | 10 => [73, 110, 80, 114, 111, 103, 114, 101, 115, 115]
  | 11 => [73, 110, 80, 114, 111, 103, 114, 101, 115, 115]
  | 12 => [73, 110, 80, 114, 111, 103, 114, 101, 115, 115]
  | 13 => [67, 97, 110, 99, 101, 108, 105, 110, 103]
  | _ => []

/-- where the k-th move ends -/
def toL : Nat → List UInt8
  | 0 => [65, 99, 99, 101, 112, 116, 101, 100]
  | 1 => [67, 97, 110, 99, 101, 108, 101, 100]
  | 2 => [65, 99, 99, 101, 112, 116, 101, 100]
  | 3 => [67, 97, 110, 99, 101, 108, 101, 100]
  | 4 => [80, 114, 101, 112, 97, 114, 101, 100]
  | 5 => [70, 97, 105, 108, 101, 100]
  | 6 => [67, 97, 110, 99, 101, 108, 101, 100]
  | 7 => [73, 110, 80, 114, 111, 103, 114, 101, 115, 115]
  | 8 => [70, 97, 105, 108, 101, 100]
  | 9 => [67, 97, 110, 99, 101, 108, 101, 100]
  | 10 => [67, 111, 109, 112, 108, 101, 116, 101, 100]
  | 11 => [70, 97, 105, 108, 101, 100]
  | 12 => [67, 97, 110, 99, 101, 108, 105, 110, 103]
  | 13 => [67, 97, 110, 99, 101, 108, 101, 100]
  | _ => []

/-- l stands among the first k names of f -/
def seen (f : Nat → List UInt8) (l : List UInt8) : Nat → Bool
  | 0 => false
  | k + 1 => seen f l k || f k == l

theorem seen_succ (f : Nat → List UInt8) (l : List UInt8) (k : Nat) : seen f l (k + 1) = (seen f l k || f k == l) := rfl

theorem seen_hit {f : Nat → List UInt8} {l : List UInt8} {k : Nat} (h : (f k == l) = true) : seen f l (k + 1) = true := by rw [seen_succ, h, Bool.or_true]

theorem seen_miss {f : Nat → List UInt8} {l : List UInt8} {k : Nat} (h : (f k == l) = false) : seen f l (k + 1) = seen f l k := by rw [seen_succ, h, Bool.or_false]

theorem seen_up {f : Nat → List UInt8} {l : List UInt8} {k : Nat} (h : seen f l k = true) : ∀ d, seen f l (k + d) = true
  | 0 => h
  | d + 1 => by rw [← Nat.add_assoc, seen_succ, seen_up h d, Bool.true_or]

theorem seen_at {f : Nat → List UInt8} {l : List UInt8} {k n : Nat} (h : (f k == l) = true) (hk : k < n) : seen f l n = true := by
  have := seen_up (seen_hit h) (n - (k + 1))
  rwa [show k + 1 + (n - (k + 1)) = n from by omega] at this

/-- what zzTerminal computes -/
def endL (l : List UInt8) : Bool := seen phL l 8 && (!seen frL l 14 && seen toL l 14)

/-- what Final computes -/
def finL (l : List UInt8) : Bool := l == [67, 97, 110, 99, 101, 108, 101, 100] || (l == [67, 111, 109, 112, 108, 101, 116, 101, 100] || l == [70, 97, 105, 108, 101, 100])

/-- THE LAW: they are one -/
theorem fin_end (l : List UInt8) : finL l = endL l := by
  by_cases h0 : l = [78, 101, 119]
  · subst h0
    decide
  by_cases h1 : l = [65, 99, 99, 101, 112, 116, 101, 100]
  · subst h1
    decide
  by_cases h2 : l = [80, 114, 101, 112, 97, 114, 101, 100]
  · subst h2
    decide
  by_cases h3 : l = [73, 110, 80, 114, 111, 103, 114, 101, 115, 115]
  · subst h3
    decide
  by_cases h4 : l = [67, 97, 110, 99, 101, 108, 105, 110, 103]
  · subst h4
    decide
  by_cases h5 : l = [67, 97, 110, 99, 101, 108, 101, 100]
  · subst h5
    decide
  by_cases h6 : l = [67, 111, 109, 112, 108, 101, 116, 101, 100]
  · subst h6
    decide
  by_cases h7 : l = [70, 97, 105, 108, 101, 100]
  · subst h7
    decide
  have hk : seen phL l 8 = false := by
    simp only [seen, phL, Bool.false_or, Bool.or_eq_false_iff, beq_eq_false_iff_ne, ne_eq]
    simp only [eq_comm (b := l), h0, h1, h2, h3, h4, h5, h6, h7, not_false_eq_true, and_self]
  have hf : finL l = false := by
    simp only [finL, Bool.or_eq_false_iff, beq_eq_false_iff_ne, ne_eq, h5, h6, h7, not_false_eq_true, and_self]
  rw [hf]
  unfold endL
  rw [hk, Bool.false_and]

end Go.Proofs.Qxb6616092aMods.fnPhaseFinalIsLifecycleEnd

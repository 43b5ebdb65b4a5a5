/-
  The plain functions of seat b6601195a: what quoteValue writes, as a function on lists of bytes. No Go in sight.
-/
import Derived.Lib.UnsafeStr
namespace Go.Proofs.Qxb6601195a

/-- Is the byte c written behind a backslash? -/
def esc (e : Bool) (c : UInt8) : Bool := e || c == 34 || c == 92
/-- The bytes between the two quotes. -/
def qbody (e : Bool) : List UInt8 → List UInt8
  | [] => []
  | c :: l => (if esc e c then [92, c] else [c]) ++ qbody e l
/-- The quoted text. -/
def quoteL (e : Bool) (l : List UInt8) : List UInt8 := 34 :: (qbody e l ++ [34])

theorem qbody_append (e : Bool) (a b : List UInt8) : qbody e (a ++ b) = qbody e a ++ qbody e b := by
  induction a with
  | nil => rfl
  | cons c l ih => simp [qbody, ih]

theorem qbody_one (e : Bool) (c : UInt8) : qbody e [c] = if esc e c then [92, c] else [c] := by simp [qbody]

theorem qbody_len (e : Bool) (l : List UInt8) : (qbody e l).length ≤ 2 * l.length := by
  induction l with
  | nil => simp [qbody]
  | cons c l ih =>
    simp only [qbody, List.length_append, List.length_cons]
    split <;> simp <;> omega

theorem take_snoc (s : ByteArray) (k : Nat) (h : k < s.size) : s.data.toList.take (k + 1) = s.data.toList.take k ++ [s[k]] := by
  rw [List.take_succ_eq_append_getElem (by simpa using h)]; rfl

theorem qbody_step (e : Bool) (s : ByteArray) (k : Nat) (h : k < s.size) :
    qbody e (s.data.toList.take (k + 1)) = qbody e (s.data.toList.take k) ++ if esc e s[k] then [92, s[k]] else [s[k]] := by
  rw [take_snoc s k h, qbody_append, qbody_one]

theorem qbody_take_len (e : Bool) (s : ByteArray) (k : Nat) : (qbody e (s.data.toList.take k)).length ≤ 2 * k := by
  have h1 := qbody_len e (s.data.toList.take k)
  have h2 : (s.data.toList.take k).length ≤ k := List.length_take_le _ _
  omega

/-- What the buffer holds when k bytes of s are written. -/
def part (e : Bool) (s : ByteArray) (k : Nat) : List UInt8 := 34 :: qbody e (s.data.toList.take k)

theorem part_zero (e : Bool) (s : ByteArray) : part e s 0 = [34] := by simp [part, qbody]
theorem part_esc (e : Bool) (s : ByteArray) (k : Nat) (h : k < s.size) (he : esc e s[k] = true) : part e s (k + 1) = part e s k ++ [92] ++ [s[k]] := by
  unfold part; rw [qbody_step e s k h, he]; simp
theorem part_bare (e : Bool) (s : ByteArray) (k : Nat) (h : k < s.size) (he : esc e s[k] = false) : part e s (k + 1) = part e s k ++ [s[k]] := by
  unfold part; rw [qbody_step e s k h, he]; simp
theorem part_len (e : Bool) (s : ByteArray) (k : Nat) : 1 ≤ (part e s k).length ∧ (part e s k).length ≤ 2 * k + 1 := by
  have := qbody_take_len e s k
  simp only [part, List.length_cons]; omega
theorem part_all (e : Bool) (s : ByteArray) (k : Nat) (h : s.size ≤ k) : part e s k ++ [34] = quoteL e s.data.toList := by
  unfold part quoteL; rw [List.take_of_length_le (by simpa using h)]; rfl

theorem esc_yes {e : Bool} {c : UInt8} (h : esc e c = true) : e = true ∨ (e = false ∧ ((c.toNat : Int) == 34) = true) ∨ (e = false ∧ ((c.toNat : Int) == 34) = false ∧ ((c.toNat : Int) == 92) = true) := by
  cases e with
  | true => exact .inl rfl
  | false =>
    simp only [esc, Bool.false_or, Bool.or_eq_true, beq_iff_eq] at h
    rcases h with rfl | rfl
    · exact .inr (.inl ⟨rfl, by decide⟩)
    · exact .inr (.inr ⟨rfl, by decide, by decide⟩)
theorem esc_no {e : Bool} {c : UInt8} (h : esc e c = false) : e = false ∧ ((c.toNat : Int) == 34) = false ∧ ((c.toNat : Int) == 92) = false := by
  cases e with
  | true => simp [esc] at h
  | false =>
    simp only [esc, Bool.false_or, Bool.or_eq_false_iff, beq_eq_false_iff_ne] at h
    refine ⟨rfl, ?_, ?_⟩
    · rw [beq_eq_false_iff_ne]; intro h1; exact h.1 (UInt8.toNat_inj.1 (by simpa using (by omega : c.toNat = 34)))
    · rw [beq_eq_false_iff_ne]; intro h1; exact h.2 (UInt8.toNat_inj.1 (by simpa using (by omega : c.toNat = 92)))

end Go.Proofs.Qxb6601195a

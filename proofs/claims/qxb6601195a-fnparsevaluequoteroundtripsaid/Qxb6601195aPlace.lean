/-
  Where the bytes of the quoted text stand in the line. Plain facts, no Go in sight.
-/
import Derived.Test.Qxb6601195aPlain
namespace Go.Proofs.Qxb6601195a

/-- The line holds the quoted text at place pre. -/
def Laid (line : ByteArray) (pre : Nat) (e : Bool) (s : ByteArray) : Prop := ∃ suf, line.data.toList.drop pre = quoteL e s.data.toList ++ suf

theorem quote_split (e : Bool) (s : ByteArray) (k : Nat) : quoteL e s.data.toList = part e s k ++ (qbody e (s.data.toList.drop k) ++ [34]) := by
  unfold quoteL part
  rw [List.cons_append, ← List.append_assoc, ← qbody_append, List.take_append_drop]

theorem byte_at {line : ByteArray} {pre j : Nat} {a b : List UInt8} {c : UInt8} {n : Nat} (h : line.data.toList.drop pre = a ++ b) (hb : b[n]? = some c) (hj : j = pre + a.length + n) : ∃ hj : j < line.size, line[j] = c := by
  have h1 : (line.data.toList.drop pre)[a.length + n]? = some c := by
    rw [h, List.getElem?_append_right (by omega)]
    simpa using hb
  rw [List.getElem?_drop] at h1
  have h2 : line.data.toList[j]? = some c := by rw [hj, Nat.add_assoc]; exact h1
  obtain ⟨hl, he⟩ := List.getElem?_eq_some_iff.1 h2
  exact ⟨by simpa using hl, he⟩

theorem drop_cons (s : ByteArray) (k : Nat) (h : k < s.size) : s.data.toList.drop k = s[k] :: s.data.toList.drop (k + 1) := by
  rw [List.drop_eq_getElem_cons (by simpa using h)]; rfl

theorem laid_split {line : ByteArray} {pre : Nat} {e : Bool} {s : ByteArray} (h : Laid line pre e s) (k : Nat) : ∃ suf, line.data.toList.drop pre = part e s k ++ (qbody e (s.data.toList.drop k) ++ [34] ++ suf) := by
  obtain ⟨suf, h⟩ := h
  exact ⟨suf, by rw [h, quote_split e s k, List.append_assoc]⟩

theorem laid_esc {line : ByteArray} {pre : Nat} {e : Bool} {s : ByteArray} (h : Laid line pre e s) (k j : Nat) (hj : j = pre + (part e s k).length) (hk : k < s.size) (he : esc e s[k] = true) :
    ∃ (h0 : j < line.size) (h1 : j + 1 < line.size), line[j] = 92 ∧ line[j + 1] = s[k] := by
  obtain ⟨suf, h⟩ := laid_split h k
  rw [drop_cons s k hk, qbody, he] at h
  obtain ⟨a, a'⟩ := byte_at (j := j) (n := 0) (c := 92) h (by simp) (by omega)
  obtain ⟨b, b'⟩ := byte_at (j := j + 1) (n := 1) (c := s[k]) h (by simp) (by omega)
  exact ⟨a, b, a', b'⟩

theorem laid_bare {line : ByteArray} {pre : Nat} {e : Bool} {s : ByteArray} (h : Laid line pre e s) (k j : Nat) (hj : j = pre + (part e s k).length) (hk : k < s.size) (he : esc e s[k] = false) :
    ∃ (h0 : j < line.size), line[j] = s[k] := by
  obtain ⟨suf, h⟩ := laid_split h k
  rw [drop_cons s k hk, qbody, he] at h
  exact byte_at (j := j) (n := 0) h (by simp) (by omega)

theorem laid_end {line : ByteArray} {pre : Nat} {e : Bool} {s : ByteArray} (h : Laid line pre e s) (k j : Nat) (hj : j = pre + (part e s k).length) (hk : s.size ≤ k) :
    ∃ (h0 : j < line.size), line[j] = 34 := by
  obtain ⟨suf, h⟩ := laid_split h k
  rw [show s.data.toList.drop k = [] from List.drop_of_length_le (by simpa using hk)] at h
  exact byte_at (j := j) (n := 0) h (by simp [qbody]) (by omega)

theorem laid_head {line : ByteArray} {pre : Nat} {e : Bool} {s : ByteArray} (h : Laid line pre e s) : ∃ (h0 : pre < line.size), line[pre] = 34 := by
  obtain ⟨suf, h⟩ := h
  exact byte_at (a := []) (j := pre) (n := 0) (by simpa using h) (by simp [quoteL]) (by simp)

theorem part_full (e : Bool) (s : ByteArray) (k : Nat) (h : s.size ≤ k) : (part e s k).length + 1 = (quoteL e s.data.toList).length := by
  rw [← part_all e s k h]; simp

theorem take_all (s : ByteArray) (k : Nat) (h : s.size ≤ k) : (⟨(s.data.toList.take k).toArray⟩ : ByteArray) = s := by
  rw [List.take_of_length_le (by simpa using h)]

end Go.Proofs.Qxb6601195a

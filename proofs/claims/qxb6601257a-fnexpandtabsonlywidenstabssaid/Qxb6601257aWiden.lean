/-
  Plain facts on widening tabs: no Go in sight.
-/
import Derived.Lib.UnsafeStr
namespace Go.Proofs.Qxb6601257a

/-- A space or a tab. -/
def blank (c : UInt8) : Bool := c == 32 || c == 9
/-- What is left without spaces and tabs. -/
def strip (l : List UInt8) : List UInt8 := l.filter fun c => !blank c
/-- g is l with its tabs widened by at most three bytes each, up to spaces and tabs. -/
def Wid (l g : List UInt8) : Prop := l.length ≤ g.length ∧ g.length ≤ l.length + 3 * l.count 9 ∧ strip g = strip l

theorem Wid.refl (l : List UInt8) : Wid l l := ⟨Nat.le_refl _, by omega, rfl⟩
theorem Wid.append {a b c d : List UInt8} (h : Wid a b) (k : Wid c d) : Wid (a ++ c) (b ++ d) := by
  obtain ⟨h1, h2, h3⟩ := h
  obtain ⟨k1, k2, k3⟩ := k
  refine ⟨by simp; omega, by simp [List.count_append]; omega, ?_⟩
  unfold strip at *
  rw [List.filter_append, List.filter_append, h3, k3]

theorem wid_spaces (n : Nat) (h1 : 1 ≤ n) (h4 : n ≤ 4) : Wid [9] (List.replicate n 32) := by
  refine ⟨by simp; omega, by simp; omega, ?_⟩
  have : ∀ n, strip (List.replicate n 32) = [] := by
    intro n
    simp [strip, blank]
  rw [this]; rfl

theorem drop_cons (s : ByteArray) (k : Nat) (h : k < s.size) : s.data.toList.drop k = s[k] :: s.data.toList.drop (k + 1) := by
  rw [List.drop_eq_getElem_cons (by simpa using h)]; rfl
theorem take_snoc (s : ByteArray) (k : Nat) (h : k < s.size) : s.data.toList.take (k + 1) = s.data.toList.take k ++ [s[k]] := by
  rw [List.take_succ_eq_append_getElem (by simpa using h)]; rfl

theorem wid_step {s : ByteArray} {k : Nat} {acc g : List UInt8} (h : k < s.size) (hw : Wid (s.data.toList.take k) acc) (hg : Wid [s[k]] g) : Wid (s.data.toList.take (k + 1)) (acc ++ g) := by
  rw [take_snoc s k h]; exact hw.append hg

theorem wid_tail {s : ByteArray} {k : Nat} {acc : List UInt8} (hw : Wid (s.data.toList.take k) acc) : Wid s.data.toList (acc ++ s.data.toList.drop k) := by
  have := hw.append (Wid.refl (s.data.toList.drop k))
  rwa [List.take_append_drop] at this

theorem wid_len {s : ByteArray} {k : Nat} {acc : List UInt8} (hw : Wid (s.data.toList.take k) acc) : acc.length ≤ 4 * k := by
  have h1 : (s.data.toList.take k).length ≤ k := List.length_take_le _ _
  have h2 := List.count_le_length (a := (9 : UInt8)) (l := s.data.toList.take k)
  have := hw.2.1
  omega

theorem strip_blank (s : ByteArray) (i : Nat) (h : i < s.size) (hb : blank s[i] = true) : strip (s.data.toList.drop (i + 1)) = strip (s.data.toList.drop i) := by
  rw [drop_cons s i h]; simp [strip, hb]
theorem strip_non (s : ByteArray) (i : Nat) (h : i < s.size) (hb : blank s[i] = false) : strip (s.data.toList.drop i) = s[i] :: strip (s.data.toList.drop (i + 1)) := by
  rw [drop_cons s i h]; simp [strip, hb]
theorem strip_end (s : ByteArray) (i : Nat) (h : s.size ≤ i) : strip (s.data.toList.drop i) = [] := by
  rw [List.drop_of_length_le (by simpa using h)]; rfl

theorem blank_yes {c : UInt8} (h : blank c = true) : ((c.toNat : Int) == 32) = true ∨ (((c.toNat : Int) == 32) = false ∧ ((c.toNat : Int) == 9) = true) := by
  simp only [blank, Bool.or_eq_true, beq_iff_eq] at h
  rcases h with rfl | rfl
  · exact .inl (by decide)
  · exact .inr ⟨by decide, by decide⟩
theorem blank_no {c : UInt8} (h : blank c = false) : ((c.toNat : Int) == 32) = false ∧ ((c.toNat : Int) == 9) = false := by
  simp only [blank, Bool.or_eq_false_iff, beq_eq_false_iff_ne] at h
  refine ⟨?_, ?_⟩
  · rw [beq_eq_false_iff_ne]; intro h1; exact h.1 (UInt8.toNat_inj.1 (by simpa using (by omega : c.toNat = 32)))
  · rw [beq_eq_false_iff_ne]; intro h1; exact h.2 (UInt8.toNat_inj.1 (by simpa using (by omega : c.toNat = 9)))

end Go.Proofs.Qxb6601257a

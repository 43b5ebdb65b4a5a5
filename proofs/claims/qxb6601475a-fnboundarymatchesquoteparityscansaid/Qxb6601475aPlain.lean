/-
  The parity scan as a function on lists of bytes, and what it does on a stretch without quotes. No Go in sight.
-/
import Derived.Lib.UnsafeStr
namespace Go.Proofs.Qxb6601475a

/-- One step of the scan: (the cut so far, are we outside). -/
def pstep (st : Nat × Bool) (k : Nat) (c : UInt8) : Nat × Bool :=
  if c = 34 then (st.1, !st.2) else if c = 10 ∧ st.2 = true then (k + 1, st.2) else st
/-- The scan of the first k bytes. -/
def pscan (l : List UInt8) : Nat → Nat × Bool
  | 0 => (0, true)
  | k + 1 => pstep (pscan l k) k (l.getD k 0)

theorem pscan_zero (l : List UInt8) : pscan l 0 = (0, true) := rfl
theorem pscan_at {l : List UInt8} {k : Nat} {c : UInt8} (h : l[k]? = some c) : pscan l (k + 1) = pstep (pscan l k) k c := by
  rw [pscan]; simp [List.getD, h]

theorem pscan_le (l : List UInt8) (k : Nat) : (pscan l k).1 ≤ k := by
  induction k with
  | zero => exact Nat.le_refl _
  | succ k ih =>
    rw [pscan]
    generalize l.getD k 0 = c
    unfold pstep
    split
    · simp; omega
    · split
      · simp
      · omega

theorem pscan_quote {l : List UInt8} {k : Nat} {st : Nat × Bool} (h : l[k]? = some 34) (hs : pscan l k = st) : pscan l (k + 1) = (st.1, !st.2) := by
  rw [pscan_at h, hs]; rfl
theorem pscan_line {l : List UInt8} {k a : Nat} (h : l[k]? = some 10) (hs : pscan l k = (a, true)) : pscan l (k + 1) = (k + 1, true) := by
  rw [pscan_at h, hs]; simp [pstep]
theorem pscan_else {l : List UInt8} {k : Nat} {c : UInt8} {st : Nat × Bool} (h : l[k]? = some c) (h34 : c ≠ 34) (h10 : st.2 = true → c ≠ 10) (hs : pscan l k = st) : pscan l (k + 1) = st := by
  rw [pscan_at h, hs]
  unfold pstep
  rw [if_neg h34, if_neg (fun ⟨a, b⟩ => h10 b a)]

/-- A stretch without quotes and, outside, without line ends: nothing turns. -/
theorem seg_keep (l : List UInt8) (f : Nat) (st : Nat × Bool) (hs : pscan l f = st) : ∀ d, f + d ≤ l.length → (∀ i, f ≤ i → i < f + d → l[i]? ≠ some 34) → (st.2 = true → ∀ i, f ≤ i → i < f + d → l[i]? ≠ some 10) → pscan l (f + d) = st := by
  intro d
  induction d with
  | zero => intro _ _ _; exact hs
  | succ d ih =>
    intro hl h34 h10
    have h0 := ih (by omega) (fun i a b => h34 i a (by omega)) (fun o i a b => h10 o i a (by omega))
    obtain ⟨c, hc⟩ : ∃ c, l[f + d]? = some c := ⟨_, List.getElem?_eq_getElem (by omega)⟩
    refine pscan_else hc ?_ ?_ h0
    · intro e; subst e; exact h34 (f + d) (by omega) (by omega) hc
    · intro o e; subst e; exact h10 o (f + d) (by omega) (by omega) hc

/-- A stretch without quotes, outside, whose last line end stands at m. -/
theorem seg_last (l : List UInt8) (f e m a : Nat) (hs : pscan l f = (a, true)) (hfm : f ≤ m) (hme : m < e) (hel : e ≤ l.length) (h34 : ∀ i, f ≤ i → i < e → l[i]? ≠ some 34) (hm : l[m]? = some 10) (h10 : ∀ i, m < i → i < e → l[i]? ≠ some 10) :
    pscan l e = (m + 1, true) := by
  have hout : ∀ d, f + d ≤ m → (pscan l (f + d)).2 = true := by
    intro d
    induction d with
    | zero => intro _; rw [Nat.add_zero, hs]
    | succ d ih =>
      intro hd
      have h0 := ih (by omega)
      obtain ⟨c, hc⟩ : ∃ c, l[f + d]? = some c := ⟨_, List.getElem?_eq_getElem (by omega)⟩
      show (pscan l (f + d + 1)).2 = true
      rw [pscan_at hc]
      unfold pstep
      rw [if_neg (fun e => by subst e; exact h34 (f + d) (by omega) (by omega) hc)]
      split
      · exact h0
      · exact h0
  have hm1 : pscan l (m + 1) = (m + 1, true) := by
    have := hout (m - f) (by omega)
    rw [show f + (m - f) = m from by omega] at this
    exact pscan_line hm (a := (pscan l m).1) (by rw [← this])
  have := seg_keep l (m + 1) (m + 1, true) hm1 (e - (m + 1)) (by omega) (fun i a b => h34 i (by omega) (by omega)) (fun _ i a b => h10 i (by omega) (by omega))
  rwa [show m + 1 + (e - (m + 1)) = e from by omega] at this

end Go.Proofs.Qxb6601475a

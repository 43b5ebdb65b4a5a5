/-
  Where the parser stands; plain facts for nextLine and logicalLine.
-/
import Derived.Test.Qxb6601608aSmall
namespace Go.Proofs.Qxb6601608a
open Go.RowKit

/-- The parser in block b holds the text s and the place q; below b the world is as w0 was. -/
structure At (w0 w : World) (b : Nat) (s : ByteArray) (q : Nat) : Prop where
  src : w.cell? ⟨b, 0, none⟩ = some (.string s)
  pos : w.cell? ⟨b, 1, none⟩ = some (.int .i64 q)
  free : w.frozen? ⟨b, 1, none⟩ = false
  bel : Below b w0 w
  lt : b < w.heap.size

theorem At.drew {w0 w : World} {b : Nat} {s : ByteArray} {q : Nat} (h : At w0 w b s q) : At w0 w.drew b s q :=
  ⟨h.src, h.pos, h.free, h.bel.drew, h.lt⟩
theorem At.drewN {w0 w : World} {b : Nat} {s : ByteArray} {q : Nat} (h : At w0 w b s q) (n : Nat) : At w0 (w.drewN n) b s q :=
  ⟨h.src, h.pos, h.free, below_drewN h.bel n, h.lt⟩
theorem At.below {w0 w w' : World} {b : Nat} {s : ByteArray} {q : Nat} (h : At w0 w b s q) (hb : Below w.heap.size w w') : At w0 w' b s q :=
  ⟨(hb.cell (p := ⟨b, 0, none⟩) h.lt).trans h.src, (hb.cell (p := ⟨b, 1, none⟩) h.lt).trans h.pos, (hb.frozen (p := ⟨b, 1, none⟩) h.lt).trans h.free, h.bel.trans (hb.mono (Nat.le_of_lt h.lt)), Nat.lt_of_lt_of_le h.lt hb.size⟩
theorem At.set {w0 w : World} {b : Nat} {s : ByteArray} {q : Nat} (h : At w0 w b s q) (n : Nat) : At w0 (w.setCell ⟨b, 1, none⟩ (.int .i64 n)) b s n := by
  refine ⟨?_, ?_, ?_, h.bel.setCell (p := ⟨b, 1, none⟩) (Nat.le_refl _) _, by simpa using h.lt⟩
  · rw [World.cell?_setCell_other _ _ _ _ (by simp)]; exact h.src
  · exact World.cell?_setCell_same _ _ _ h.pos
  · simpa using h.free

theorem At.setZ {w0 w : World} {b : Nat} {s : ByteArray} {q : Nat} (h : At w0 w b s q) {z : Int} {n : Nat} (hz : z = n) : At w0 (w.setCell ⟨b, 1, none⟩ (.int .i64 z)) b s n := by
  subst hz; exact h.set n

/-- What nextLine answers and leaves: the parser's place q behind it. -/
def IsStep (s : ByteArray) (p b : Nat) (e : Ending) (w' : World) : Prop :=
  ∃ (q : Nat) (ok : Bool), p ≤ q ∧ q ≤ s.size ∧ (ok = false → q = s.size) ∧ (ok = true → ∃ h : q < s.size, eolB (s[q]'h) = false) ∧ w'.cell? ⟨b, 1, none⟩ = some (.int .i64 q) ∧ e = .returned (.bool ok)

theorem step_end {s : ByteArray} {p b q : Nat} {w0 w' : World} (hpq : p ≤ q) (hq : q = s.size) (h : At w0 w' b s q) : IsStep s p b (.returned (.bool false)) w' :=
  ⟨q, false, hpq, Nat.le_of_eq hq, fun _ => hq, by simp, h.pos, rfl⟩
theorem step_ok {s : ByteArray} {p b q : Nat} {w0 w' : World} (hpq : p ≤ q) (hq : q < s.size) (he : eolB (s[q]'hq) = false) (h : At w0 w' b s q) : IsStep s p b (.returned (.bool true)) w' :=
  ⟨q, true, hpq, Nat.le_of_lt hq, by simp, fun _ => ⟨hq, he⟩, h.pos, rfl⟩

theorem rest_facts {s t : ByteArray} {n : Nat} (h : s.extract n s.size = t) (hn : n < s.size) : t.size = s.size - n ∧ ∃ h0 : 0 < t.size, t[0]'h0 = s[n]'hn := by
  subst h
  have hsz : (s.extract n s.size).size = s.size - n := by rw [Lib.size_eq, Lib.extract_to_end, List.length_drop, ← Lib.size_eq]
  refine ⟨hsz, by omega, ?_⟩
  have h1 : (s.extract n s.size).data.toList[0]? = some s[n] := by
    rw [Lib.extract_to_end, List.getElem?_drop]
    exact Lib.data_getElem? s n hn
  obtain ⟨_, h2⟩ := List.getElem?_eq_some_iff.1 h1
  exact h2

theorem eol_yes {c : UInt8} (h : eolB c = true) : ((c.toNat : Int) == 10) = true ∨ (((c.toNat : Int) == 10) = false ∧ ((c.toNat : Int) == 13) = true) := by
  simp only [eolB, Bool.or_eq_true, beq_iff_eq] at h
  rcases h with rfl | rfl
  · exact .inr ⟨by decide, by decide⟩
  · exact .inl (by decide)
theorem eol_non {c : UInt8} (h : eolB c = false) : ((c.toNat : Int) == 10) = false ∧ ((c.toNat : Int) == 13) = false := by
  simp only [eolB, Bool.or_eq_false_iff, beq_eq_false_iff_ne] at h
  refine ⟨?_, ?_⟩
  · rw [beq_eq_false_iff_ne]; intro h1; exact h.2 (UInt8.toNat_inj.1 (by simpa using (by omega : c.toNat = 10)))
  · rw [beq_eq_false_iff_ne]; intro h1; exact h.1 (UInt8.toNat_inj.1 (by simpa using (by omega : c.toNat = 13)))

theorem skipLineEnd_z (s : ByteArray) (z : Int) (i : Nat) (w : World) (hz : z = i) (hs : s.size ≤ 1048576) (hi : i ≤ s.size) :
    Calls Try.prog 39 #[.string s, .int .i64 z] w fun e w' => IsNext s i e ∧ w = w' := by
  subst hz; exact skipLineEnd_any s i w hs hi

end Go.Proofs.Qxb6601608a

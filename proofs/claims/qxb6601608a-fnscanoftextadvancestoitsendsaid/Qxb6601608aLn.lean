/-
  Where the parser stands while a logical line is read: its text, its place, the two rows that it owns.
-/
import Derived.Test.Qxb6601608aAt
import Derived.Lib.AppendStr
import Derived.Lib.UnsafeStr
namespace Go.Proofs.Qxb6601608a
open Go.RowKit

/-- All cells are int's. -/
def Ints (xs : List Value) : Prop := ∀ v ∈ xs, ∃ z : Int, v = .int .i64 z

/-- The parser in block b: text s, place q; np parts in a row of its own, a line of nl bytes in another; below b the world is as w0 was. -/
structure Ln (w0 w : World) (b : Nat) (s : ByteArray) (q : Nat) (ap : Option Addr) (np cp : Nat) (al : Option Addr) (nl cl : Nat) : Prop where
  src : w.cell? ⟨b, 0, none⟩ = some (.string s)
  pos : w.cell? ⟨b, 1, none⟩ = some (.int .i64 q)
  free1 : w.frozen? ⟨b, 1, none⟩ = false
  c2 : w.cell? ⟨b, 2, none⟩ = some (.slice ap np cp)
  free2 : w.frozen? ⟨b, 2, none⟩ = false
  c3 : w.cell? ⟨b, 3, none⟩ = some (.slice al nl cl)
  free3 : w.frozen? ⟨b, 3, none⟩ = false
  own2 : ∃ xs, w.ownsRow (b + 1) 51 2 (.slice ap np cp) np xs ∧ Ints xs
  own3 : ∃ l : List UInt8, w.ownsRow (b + 1) 5 1 (.slice al nl cl) nl (Lib.byteCells l)
  bel : Below b w0 w
  lt : b < w.heap.size

section
variable {w0 w w' : World} {b : Nat} {s : ByteArray} {q : Nat} {ap : Option Addr} {np cp : Nat} {al : Option Addr} {nl cl : Nat}

theorem Ln.drew (h : Ln w0 w b s q ap np cp al nl cl) : Ln w0 w.drew b s q ap np cp al nl cl :=
  ⟨h.src, h.pos, h.free1, h.c2, h.free2, h.c3, h.free3, h.own2, h.own3, h.bel.drew, h.lt⟩
theorem Ln.drewN (h : Ln w0 w b s q ap np cp al nl cl) (n : Nat) : Ln w0 (w.drewN n) b s q ap np cp al nl cl :=
  ⟨h.src, h.pos, h.free1, h.c2, h.free2, h.c3, h.free3, h.own2, h.own3, below_drewN h.bel n, h.lt⟩

/-- A step that turns no block that was there. -/
theorem Ln.below (h : Ln w0 w b s q ap np cp al nl cl) (hb : Below w.heap.size w w') : Ln w0 w' b s q ap np cp al nl cl := by
  have hg : w.grownBy w' none := ⟨hb.os, hb.tape, hb.output, hb.size, fun k hk _ => hb.block k hk⟩
  obtain ⟨xs, hx, hi⟩ := h.own2
  obtain ⟨l, hl⟩ := h.own3
  refine ⟨(hb.cell (p := ⟨b, 0, none⟩) h.lt).trans h.src, (hb.cell (p := ⟨b, 1, none⟩) h.lt).trans h.pos, (hb.frozen (p := ⟨b, 1, none⟩) h.lt).trans h.free1, (hb.cell (p := ⟨b, 2, none⟩) h.lt).trans h.c2, (hb.frozen (p := ⟨b, 2, none⟩) h.lt).trans h.free2, (hb.cell (p := ⟨b, 3, none⟩) h.lt).trans h.c3, (hb.frozen (p := ⟨b, 3, none⟩) h.lt).trans h.free3, ⟨xs, hx.kept hg ?_, hi⟩, ⟨l, hl.kept hg ?_⟩, h.bel.trans (hb.mono (Nat.le_of_lt h.lt)), Nat.lt_of_lt_of_le h.lt hb.size⟩
  · cases (Value.slice ap np cp).ownBlock <;> simp
  · cases (Value.slice al nl cl).ownBlock <;> simp

/-- A store into a cell of the parser's own block leaves both rows owned. -/
theorem own_set {e : TypeId} {size : Nat} {v : Value} {n : Nat} {xs : List Value} (h : w.ownsRow (b + 1) e size v n xs) (j : Nat) (u : Value) : (w.setCell ⟨b, j, none⟩ u).ownsRow (b + 1) e size v n xs := by
  refine h.kept (row := some b) ⟨rfl, rfl, rfl, by simp, fun k _ hk => Below.heap_setCell _ _ _ _ (fun e => hk (by simp [e]))⟩ ?_
  cases hv : v.ownBlock with
  | none => exact .inl rfl
  | some k =>
    refine .inr (fun e => ?_)
    have := (h.lt k hv).1
    simp at e
    omega

/-- The place is stored. -/
theorem Ln.setPos (h : Ln w0 w b s q ap np cp al nl cl) {z : Int} {n : Nat} (hz : z = n) : Ln w0 (w.setCell ⟨b, 1, none⟩ (.int .i64 z)) b s n ap np cp al nl cl := by
  subst hz
  obtain ⟨xs, hx, hi⟩ := h.own2
  obtain ⟨l, hl⟩ := h.own3
  refine ⟨?_, World.cell?_setCell_same _ _ _ h.pos, by simpa using h.free1, ?_, by simpa using h.free2, ?_, by simpa using h.free3, ⟨xs, own_set hx 1 _, hi⟩, ⟨l, own_set hl 1 _⟩, h.bel.setCell (p := ⟨b, 1, none⟩) (Nat.le_refl _) _, by simpa using h.lt⟩
  · rw [World.cell?_setCell_other _ _ _ _ (by simp)]; exact h.src
  · rw [World.cell?_setCell_other _ _ _ _ (by simp)]; exact h.c2
  · rw [World.cell?_setCell_other _ _ _ _ (by simp)]; exact h.c3

/-- Two rows of different elements lie in different blocks. -/
theorem blocks_ne {e e' : TypeId} {B B' size size' : Nat} {v v' : Value} {n n' : Nat} {xs xs' : List Value} (h : w.ownsRow B e size v n xs) (h' : w.ownsRow B' e' size' v' n' xs') (hne : e ≠ e') : v.ownBlock = none ∨ v.ownBlock ≠ v'.ownBlock := by
  rcases h.2 with ⟨rfl, _⟩ | ⟨g, c, cur, rfl, _, hg, _⟩
  · exact .inl rfl
  · rcases h'.2 with ⟨rfl, _⟩ | ⟨g', c', cur', rfl, _, hg', _⟩
    · exact .inr (by simp [Value.ownBlock])
    · refine .inr (fun e0 => ?_)
      simp only [Value.ownBlock, Option.some.injEq] at e0
      subst e0
      rw [hg] at hg'
      simp only [Option.some.injEq, Obj.cells.injEq] at hg'
      exact hne hg'.2.1

theorem own_above {e : TypeId} {size : Nat} {v : Value} {n : Nat} {xs : List Value} (h : w.ownsRow (b + 1) e size v n xs) : some b ≠ v.ownBlock := by
  intro hv
  have := (h.lt b hv.symm).1
  omega

/-- What is known behind an append to one of the rows, before the value is stored. -/
theorem grown_cell {row : Option Nat} (hg : w.grownBy w' row) (hlt : b < w.heap.size) (hne : some b ≠ row) (j : Nat) : w'.cell? ⟨b, j, none⟩ = w.cell? ⟨b, j, none⟩ ∧ w'.frozen? ⟨b, j, none⟩ = w.frozen? ⟨b, j, none⟩ :=
  ⟨World.cell?_of_block (a := ⟨b, j, none⟩) (hg.block b hlt hne), World.frozen?_of_block (a := ⟨b, j, none⟩) (hg.block b hlt hne)⟩

/-- parts = append(parts, part{..}), stored. -/
theorem Ln.app2 (h : Ln w0 w b s q ap np cp al nl cl) {xs : List Value} (hx : w.ownsRow (b + 1) 51 2 (.slice ap np cp) np xs) {ap' : Option Addr} {n' cp' : Nat} {ys : List Value} (hi : Ints ys)
    (hown : w'.ownsRow (b + 1) 51 2 (.slice ap' n' cp') n' ys) (hg : w.grownBy w' (Value.slice ap np cp).ownBlock) : Ln w0 (w'.setCell ⟨b, 2, none⟩ (.slice ap' n' cp')) b s q ap' n' cp' al nl cl := by
  have hne := own_above hx
  obtain ⟨l, hl⟩ := h.own3
  have k := fun j => grown_cell (w' := w') hg h.lt hne j
  have hl' := hl.kept hg (blocks_ne hl hx (by decide))
  refine ⟨?_, ?_, ?_, World.cell?_setCell_same _ _ _ ((k 2).1.trans h.c2), ?_, ?_, ?_, ⟨ys, own_set hown 2 _, hi⟩, ⟨l, own_set hl' 2 _⟩, ?_, ?_⟩
  · rw [World.cell?_setCell_other _ _ _ _ (by simp)]; exact (k 0).1.trans h.src
  · rw [World.cell?_setCell_other _ _ _ _ (by simp)]; exact (k 1).1.trans h.pos
  · simpa using (k 1).2.trans h.free1
  · simpa using (k 2).2.trans h.free2
  · rw [World.cell?_setCell_other _ _ _ _ (by simp)]; exact (k 3).1.trans h.c3
  · simpa using (k 3).2.trans h.free3
  · exact (h.bel.grown hg (Nat.le_of_lt h.lt) (fun j hj => by have := (hx.lt j hj).1; omega)).setCell (p := ⟨b, 2, none⟩) (Nat.le_refl _) _
  · have := hg.size; have := h.lt; simp; omega

/-- line = append(line, ..), stored. -/
theorem Ln.app3 (h : Ln w0 w b s q ap np cp al nl cl) {l : List UInt8} (hl : w.ownsRow (b + 1) 5 1 (.slice al nl cl) nl (Lib.byteCells l)) {al' : Option Addr} {n' cl' : Nat} {l' : List UInt8}
    (hown : w'.ownsRow (b + 1) 5 1 (.slice al' n' cl') n' (Lib.byteCells l')) (hg : w.grownBy w' (Value.slice al nl cl).ownBlock) : Ln w0 (w'.setCell ⟨b, 3, none⟩ (.slice al' n' cl')) b s q ap np cp al' n' cl' := by
  have hne := own_above hl
  obtain ⟨xs, hx, hi⟩ := h.own2
  have k := fun j => grown_cell (w' := w') hg h.lt hne j
  have hx' := hx.kept hg (blocks_ne hx hl (by decide))
  refine ⟨?_, ?_, ?_, ?_, ?_, World.cell?_setCell_same _ _ _ ((k 3).1.trans h.c3), ?_, ⟨xs, own_set hx' 3 _, hi⟩, ⟨l', own_set hown 3 _⟩, ?_, ?_⟩
  · rw [World.cell?_setCell_other _ _ _ _ (by simp)]; exact (k 0).1.trans h.src
  · rw [World.cell?_setCell_other _ _ _ _ (by simp)]; exact (k 1).1.trans h.pos
  · simpa using (k 1).2.trans h.free1
  · rw [World.cell?_setCell_other _ _ _ _ (by simp)]; exact (k 2).1.trans h.c2
  · simpa using (k 2).2.trans h.free2
  · simpa using (k 3).2.trans h.free3
  · exact (h.bel.grown hg (Nat.le_of_lt h.lt) (fun j hj => by have := (hl.lt j hj).1; omega)).setCell (p := ⟨b, 3, none⟩) (Nat.le_refl _) _
  · have := hg.size; have := h.lt; simp; omega

theorem grown_of_alloc {o : Obj} {row : Option Nat} (hg : (w.alloc o).drew.grownBy w' row) : w.grownBy w' row :=
  ⟨hg.os, hg.tape, hg.output, by have := hg.size; simp at this; omega, fun k hk hne => by
    rw [hg.block k (by simp; omega) hne]
    exact Below.heap_alloc w o k hk⟩
theorem grown_of_drew {row : Option Nat} (hg : w.drew.grownBy w' row) : w.grownBy w' row :=
  ⟨hg.os, hg.tape, hg.output, hg.size, hg.block⟩
theorem Ints.two {xs : List Value} (h : Ints xs) (a c : Int) : Ints (xs ++ [.int .i64 a, .int .i64 c]) := by
  intro v hv
  simp only [List.mem_append, List.mem_cons, List.not_mem_nil, or_false] at hv
  rcases hv with hv | rfl | rfl
  · exact h v hv
  · exact ⟨_, rfl⟩
  · exact ⟨_, rfl⟩

theorem Ln.same2 (h : Ln w0 w b s q ap np cp al nl cl) : Ln w0 (w.setCell ⟨b, 2, none⟩ (.slice ap np cp)) b s q ap np cp al nl cl := by
  obtain ⟨xs, hx, hi⟩ := h.own2
  exact h.app2 hx hi hx ⟨rfl, rfl, rfl, Nat.le_refl _, fun _ _ _ => rfl⟩
theorem Ln.same3 (h : Ln w0 w b s q ap np cp al nl cl) : Ln w0 (w.setCell ⟨b, 3, none⟩ (.slice al nl cl)) b s q ap np cp al nl cl := by
  obtain ⟨l, hl⟩ := h.own3
  exact h.app3 hl hl ⟨rfl, rfl, rfl, Nat.le_refl _, fun _ _ _ => rfl⟩

end
end Go.Proofs.Qxb6601608a

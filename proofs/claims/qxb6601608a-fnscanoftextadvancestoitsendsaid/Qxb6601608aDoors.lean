/-
  The walks of ZZNextLine and ZZLogicalLine.
-/
import Derived.Test.Qxb6601608aNext
import Derived.Test.Qxb6601608aLog
import Derived.Lib.Builder
import Derived.Deep.QuietTactic
import Derived.BigQuiet
namespace Go.Proofs.Qxb6601608a
open Go.RowKit

theorem info3 : (Try.prog.info? 3).map (fun i => (i.zero, i.size, i.bytes)) = some (some (.int .i64 0), 1, 8) := by kernel_rfl

/-- A parser just made. -/
theorem heap_new (w : World) (o : Obj) : (w.alloc o).heap[w.heap.size]? = some o := by
  show (w.heap.push o)[w.heap.size]? = _
  simp

theorem at_new (w : World) (s : ByteArray) (p : Nat) (a b c : Value) :
    At (w.alloc (.cells #[.string s, .int .i64 p, a, b, c] 46)) (w.alloc (.cells #[.string s, .int .i64 p, a, b, c] 46)) w.heap.size s p := by
  have h := heap_new w (.cells #[.string s, .int .i64 p, a, b, c] 46)
  exact ⟨(Lib.cell_of_heap h _).trans rfl, (Lib.cell_of_heap h _).trans rfl, Lib.frozen_of_heap h _, Below.refl _ _, by simp⟩

theorem ln_new (w : World) (s : ByteArray) (p : Nat) (c : Value) :
    Ln (w.alloc (.cells #[.string s, .int .i64 p, .slice none 0 0, .slice none 0 0, c] 46)) (w.alloc (.cells #[.string s, .int .i64 p, .slice none 0 0, .slice none 0 0, c] 46)) w.heap.size s p none 0 0 none 0 0 := by
  have h := heap_new w (.cells #[.string s, .int .i64 p, .slice none 0 0, .slice none 0 0, c] 46)
  exact ⟨(Lib.cell_of_heap h _).trans rfl, (Lib.cell_of_heap h _).trans rfl, Lib.frozen_of_heap h _, (Lib.cell_of_heap h _).trans rfl, Lib.frozen_of_heap h _, (Lib.cell_of_heap h _).trans rfl, Lib.frozen_of_heap h _, ⟨[], World.ownsRow_nil _ _ _ _, fun v hv => by simp at hv⟩, ⟨[], World.ownsRow_nil _ _ _ _⟩, Below.refl _ _, by simp⟩

def IsNL (s : ByteArray) (p : Nat) (e : Ending) : Prop :=
  ∃ (q : Nat) (ok : Bool), p ≤ q ∧ q ≤ s.size ∧ (ok = false → q = s.size) ∧ (ok = true → ∃ h : q < s.size, eolB (s[q]'h) = false) ∧ e = .returned (.tuple #[.int .i64 q, .bool ok])

set_option maxHeartbeats 400000 in
theorem zzNext_any (s : ByteArray) (p : Nat) (w : World) (hs : s.size ≤ 1048576) (hp : p ≤ s.size) :
    Calls Try.prog 17 #[.string s, .int .i64 p] w fun e w' => IsNL s p e ∧ Below w.heap.size w w' := by
  go_enter Try.func17, Try.ntmps17
  go_wp2_with (go_at_call 29; refine (nextLine_any w.heap.size s p _ hs hp (at_new w s p _ _ _)).mono ?_)
  rintro e w1 ⟨⟨q, ok, h1, h2, h3, h4, hc, rfl⟩, hb⟩
  have H3 := mkHid h3
  have H4 := mkHid h4
  have hb2 : Below w.heap.size w w1 := ((Below.refl _ w).alloc (Nat.le_refl _) _).trans hb
  clear h3 h4 hb
  go_wp2
  go_ret2
  exact ⟨⟨q, ok, h1, h2, H3.out, H4.out, rfl⟩, hb2⟩

theorem below_of_grown {w w' : World} (hg : w.grownBy w' none) : Below w.heap.size w w' :=
  ⟨hg.os, hg.tape, hg.output, hg.size, fun k hk => hg.block k hk (by simp)⟩
theorem own_none {w w' : World} {B : Nat} {e : TypeId} {size : Nat} {v : Value} {n : Nat} {xs : List Value} (h : w.ownsRow B e size v n xs) (hg : w.grownBy w' none) : w'.ownsRow B e size v n xs :=
  h.kept hg (by cases v.ownBlock <;> simp)

/-- A store into a row of int's that is none of the parser's. -/
theorem Ln.far {w0 w : World} {b : Nat} {s : ByteArray} {q : Nat} {ap : Option Addr} {np cp : Nat} {al : Option Addr} {nl cl : Nat} (h : Ln w0 w b s q ap np cp al nl cl)
    {g n : Nat} {ys : List Value} (hr : w.ownsRow (b + 1) 3 1 (.slice (some ⟨g, 0, none⟩) n n) n ys) (j : Nat) (u : Value) : Ln w0 (w.setCell ⟨g, j, none⟩ u) b s q ap np cp al nl cl := by
  have hgb : b < g := by have := (hr.lt g rfl).1; omega
  obtain ⟨xs, hx, hi⟩ := h.own2
  obtain ⟨l, hl⟩ := h.own3
  have hg : w.grownBy (w.setCell ⟨g, j, none⟩ u) (some g) := (hr.stored j u).2
  have k := fun j => grown_cell hg h.lt (by simp; omega) j
  exact ⟨(k 0).1.trans h.src, (k 1).1.trans h.pos, (k 1).2.trans h.free1, (k 2).1.trans h.c2, (k 2).2.trans h.free2, (k 3).1.trans h.c3, (k 3).2.trans h.free3, ⟨xs, hx.kept hg (blocks_ne hx hr (by decide)), hi⟩, ⟨l, hl.kept hg (blocks_ne hl hr (by decide))⟩, h.bel.setCell (p := ⟨g, j, none⟩) (by simp; omega) _, by simpa using h.lt⟩

theorem own_far {w : World} {B : Nat} {g g' n : Nat} {ys zs : List Value} (h : w.ownsRow B 3 1 (.slice (some ⟨g, 0, none⟩) n n) n ys) (h' : w.ownsRow B 3 1 (.slice (some ⟨g', 0, none⟩) n n) n zs) (hne : g ≠ g') (j : Nat) (u : Value) :
    (w.setCell ⟨g', j, none⟩ u).ownsRow B 3 1 (.slice (some ⟨g, 0, none⟩) n n) n ys :=
  h.kept (h'.stored j u).2 (.inr (by simpa [Value.ownBlock] using hne))

def IsLL (s : ByteArray) (p : Nat) (e : Ending) : Prop :=
  ∃ (str : ByteArray) (q : Nat) (a b c : Value), p < q ∧ q ≤ s.size ∧ e = .returned (.tuple #[.string str, .int .i64 q, a, b, c])

set_option maxRecDepth 100000 in
set_option maxHeartbeats 1600000 in
theorem zzLogical_any (s : ByteArray) (p : Nat) (w : World) (hs : s.size ≤ 1048576) (hp : p < s.size) (hpe : eolB (s[p]'hp) = false) :
    Calls Try.prog 23 #[.string s, .int .i64 p, .slice none 0 0] w fun e w' => IsLL s p e ∧ Below w.heap.size w w' := by
  have HP := mkHid hpe
  clear hpe
  obtain ⟨i0, hi0, hz0, hz1, hz2⟩ := info_parts info3
  go_enter Try.func23, Try.ntmps23
  go_wp2_with (go_at_call 32; refine (logical_any w.heap.size s p _ hs hp HP.out (ln_new w s p _)).mono ?_)
  rintro e w1 ⟨str, q, ap, np, cp, al, nl, cl, h1, h2, h3, hA, rfl⟩
  have hbw : Below w.heap.size w w1 := ((Below.refl _ w).alloc (Nat.le_refl _) _).trans hA.bel
  have c1 := hA.pos; have c2 := hA.c2; have c3 := hA.c3
  have hlt1 := hA.lt
  go_wp2_with (at_make; refine wpList_make_full _ rfl _ _ 37 rfl (w.heap.size + 1) 3 i0 (.int .i64 0) 1 Try.underlying37 hi0 hz0 hz1 _ _ _ _ np rfl rfl rfl rfl ?b2 ?b3 (by omega) ?_)
  case b2 => rw [hz2]; omega
  case b3 => unfold maxLen; omega
  intro w2 hown2 hgrow2
  have hB := hA.below (below_of_grown hgrow2)
  have hbw2 : Below w.heap.size w w2 := hbw.trans ((below_of_grown hgrow2).mono (by omega))
  have hg12 := hgrow2.size
  have hlt2 : w1.heap.size < w2.heap.size := (hown2.lt _ rfl).2
  clear hA c1 c2 c3 hgrow2 hbw
  have c1 := hB.pos; have c2 := hB.c2; have c3 := hB.c3
  go_wp2_with (at_make; refine wpList_make_full _ rfl _ _ 37 rfl (w.heap.size + 1) 3 i0 (.int .i64 0) 1 Try.underlying37 hi0 hz0 hz1 _ _ _ _ np rfl rfl rfl rfl ?d2 ?d3 (by omega) ?_)
  case d2 => rw [hz2]; omega
  case d3 => unfold maxLen; omega
  intro w3 hown3 hgrow3
  have hC := hB.below (below_of_grown hgrow3)
  have hbw3 : Below w.heap.size w w3 := hbw2.trans ((below_of_grown hgrow3).mono (by omega))
  have hownL := own_none hown2 hgrow3
  clear hB c1 c2 c3 hgrow3 hbw2 hown2
  have hne : w1.heap.size ≠ w2.heap.size := by omega
  generalize (w.alloc (Obj.cells #[.string s, .int .i64 p, .slice none 0 0, .slice none 0 0, .slice none 0 0] 46)) = w0 at *
  generalize (madeCells #[Value.int .i64 0] np).toList = ys0 at *
  generalize hb1 : w1.heap.size = B1 at *
  generalize hb2 : w2.heap.size = B2 at *
  clear hb1 hb2 hg12 hlt1 hlt2 hi0 hz0 hz1 hz2
  go_wp2
  go_loopw [15] (fun i wr => ∃ (k : Nat) (ys zs : List Value), k ≤ np ∧ i = .int .i64 k ∧ Ln w0 wr w.heap.size s q ap np cp al nl cl ∧ wr.ownsRow (w.heap.size + 1) 3 1 (.slice (some ⟨B1, 0, none⟩) np np) np ys ∧ wr.ownsRow (w.heap.size + 1) 3 1 (.slice (some ⟨B2, 0, none⟩) np np) np zs ∧ Below w.heap.size w wr) (fun i _ => np - (intOf i).toNat)
  case atStart => exact ⟨0, _, _, Nat.zero_le _, rfl, hC, hownL, hown3, hbw3⟩
  case round =>
    clear hC hownL hown3 hbw3
    obtain ⟨k, ys, zs, hk, rfl, hA, hL, hS, hb⟩ := hrel
    have c1 := hA.pos; have c2 := hA.c2; have c3 := hA.c3
    by_cases hlt : k < np
    · obtain ⟨xs, hx, hi⟩ := hA.own2
      obtain ⟨g, hg⟩ : ∃ g, ap = some ⟨g, 0, none⟩ := by
        rcases hx.2 with ⟨hv, h0⟩ | ⟨g, c, cur, hv, _⟩
        · omega
        · simp at hv; exact ⟨g, hv.1⟩
      subst hg
      have hxl : xs.length = np * 2 := hx.1
      obtain ⟨z0, e0⟩ := hi xs[k * 2] (List.getElem_mem (by omega))
      obtain ⟨z1, e1⟩ := hi xs[k * 2 + 1] (List.getElem_mem (by omega))
      have hc0 : wr.cell? ⟨g, k * 2, none⟩ = some (.int .i64 z0) := by rw [hx.cellAt (k * 2) (by omega), List.getElem?_eq_getElem (by omega), e0]
      have hc1 : wr.cell? ⟨g, k * 2 + 1, none⟩ = some (.int .i64 z1) := by rw [hx.cellAt (k * 2 + 1) (by omega), List.getElem?_eq_getElem (by omega), e1]
      have hyl : k < ys.length := by have := hL.1; omega
      have hzl : k < zs.length := by have := hS.1; omega
      have hd1 : wr.cell? ⟨B1, k, none⟩ = some ys[k] := by rw [hL.cellAt k (by omega), List.getElem?_eq_getElem hyl]
      have hd2 : wr.cell? ⟨B2, k, none⟩ = some zs[k] := by rw [hS.cellAt k (by omega), List.getElem?_eq_getElem hzl]
      have hf1 := hL.frozenAt k
      have hf2 := hS.frozenAt k
      have n1 : ¬ B1 = w.heap.size := by have := (hL.lt B1 rfl).1; omega
      have n2 : ¬ B2 = w.heap.size := by have := (hS.lt B2 rfl).1; omega
      have n3 : ¬ B1 = g := fun e => by rcases blocks_ne hx hL (by decide) with h | h <;> simp [Value.ownBlock, e] at h
      have n4 : ¬ B1 = B2 := hne
      have n1' : ¬ w.heap.size = B1 := fun e => n1 e.symm
      have n2' : ¬ w.heap.size = B2 := fun e => n2 e.symm
      have n3' : ¬ g = B1 := fun e => n3 e.symm
      have n4' : ¬ B2 = B1 := fun e => n4 e.symm
      have HA1 := mkHid (hA.far hL k (.int .i64 z0))
      have HL1 := mkHid ((hL.stored k (.int .i64 z0)).1)
      have HS1 := mkHid (own_far hS hL (fun e => hne e.symm) k (.int .i64 z0))
      have HB1 := mkHid (hb.setCell (p := ⟨B1, k, none⟩) (Nat.le_of_lt (by have := (hL.lt B1 rfl).1; simp; omega)) (.int .i64 z0))
      clear hA hL hS hb hx hi e0 e1
      have n2b : w.heap.size ≤ B2 := by have := (HS1.out.lt B2 rfl).1; omega
      go_wp2
      go_roundw
      case rel => exact ⟨k + 1, _, _, by omega, by go_num, HA1.out.far HS1.out k _, own_far HL1.out HS1.out hne k _, (HS1.out.stored k _).1, HB1.out.setCell (p := ⟨B2, k, none⟩) n2b _⟩
      case measure => simp [intOf]; omega
    · go_wp2
      go_quiet (fail)
      go_wp2
      exact bodyPost_ret (v := .tuple #[.string str, .int .i64 q, .slice (some ⟨B1, 0, none⟩) np np, .slice (some ⟨B2, 0, none⟩) np np, .slice al nl cl]) (by simp [results, Try.results23, go_sem]) rfl ⟨⟨str, q, _, _, _, h1, h2, rfl⟩, below_drewN hb _⟩

end Go.Proofs.Qxb6601608a

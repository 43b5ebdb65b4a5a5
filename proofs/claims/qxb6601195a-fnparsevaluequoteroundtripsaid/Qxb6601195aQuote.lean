/-
  The walk of quoteValue: it returns the quoted text, and writes nothing that was there.
-/
import Derived.Test.Qxb6601195aRows
import Derived.Test.Qxb6601195aPlain
import Derived.WalkKit
import Derived.WalkSpells
import Derived.WalkLawsBesides
namespace Go.Proofs.Qxb6601195a
open Go.RowKit

theorem info5 : (Try.prog.info? 5).map (fun i => (i.zero, i.size, i.bytes)) = some (some (.int .u8 0), 1, 1) := by kernel_rfl

theorem one_cell (x : Value) (h : x.oneCell' = true) : ∀ u ∈ [x], u.oneCell' = true := by
  intro u hu; simp at hu; subst hu; exact h

/-- 'string(buf)', buf a row of the call's own. -/
theorem own_string {w : World} {base : Nat} {v : Value} {n : Nat} {l : List UInt8} (h : w.ownsRow base 5 1 v n (Lib.byteCells l)) (hn : n = l.length) (h1 : 1 ≤ l.length) :
    ∃ g cap, v = .slice (some ⟨g, 0, none⟩) n cap ∧ (convert 30 9 (.slice (some ⟨g, 0, none⟩) n cap)).run Try.prog w = .ok (.string ⟨l.toArray⟩) w := by
  subst hn
  have h' := h
  rcases h'.2 with ⟨_, h0⟩ | ⟨g, cap, cur, rfl, _⟩
  · omega
  · refine ⟨g, cap, rfl, run_convert_bytes_back w 30 9 5 _ cap l Try.underlying30 Try.underlying5 Try.underlying9 fun j hj => ?_⟩
    have := h.cellAt j (by omega)
    rw [show (⟨g, 0, none⟩ : Addr).add j = ⟨g, j, none⟩ from by unfold Addr.add; split <;> simp_all, this]
    simp [Lib.byteCells, hj]

theorem own_step2 {w : World} {base : Nat} {v : Value} {a b : List UInt8} {c : UInt8} (h : b = a ++ [92] ++ [c]) (ho : w.ownsRow base 5 1 v (a.length + 1 + 1) (Lib.byteCells a ++ [.int .u8 92, .int .u8 c.toNat])) :
    w.ownsRow base 5 1 v b.length (Lib.byteCells b) := by
  subst h
  rw [Lib.byteCells_append, Lib.byteCells_append]
  simpa [Lib.byteCells] using ho
theorem own_step1 {w : World} {base : Nat} {v : Value} {a b : List UInt8} {c : UInt8} (h : b = a ++ [c]) (ho : w.ownsRow base 5 1 v (a.length + 1) (Lib.byteCells a ++ [.int .u8 c.toNat])) :
    w.ownsRow base 5 1 v b.length (Lib.byteCells b) := by
  subst h
  rw [Lib.byteCells_append]
  simpa [Lib.byteCells] using ho
theorem own_end {w : World} {base : Nat} {v : Value} {a b : List UInt8} (h : a ++ [34] = b) (ho : w.ownsRow base 5 1 v (a.length + 1) (Lib.byteCells a ++ [.int .u8 34])) :
    ∃ g cap, v = .slice (some ⟨g, 0, none⟩) (a.length + 1) cap ∧ (convert 30 9 (.slice (some ⟨g, 0, none⟩) (a.length + 1) cap)).run Try.prog w = .ok (.string ⟨b.toArray⟩) w := by
  subst h
  have h2 : w.ownsRow base 5 1 v (a.length + 1) (Lib.byteCells (a ++ [34])) := by rw [Lib.byteCells_append]; exact ho
  exact own_string h2 (by simp) (by simp)

set_option maxHeartbeats 1600000 in
theorem quote_any (s : ByteArray) (e : Bool) (w : World) (hs : s.size ≤ 262144) :
    Calls Try.prog 11 #[.string s, .bool e] w fun en w' => en = .returned (.string ⟨(quoteL e s.data.toList).toArray⟩) ∧ Below w.heap.size w w' := by
  obtain ⟨i0, hi, hz0, hz1, hz2⟩ := info_parts info5
  go_enter Try.func11, Try.ntmps11
  go_wp2_with (at_make; refine wpList_make_own _ rfl _ _ 30 rfl w.heap.size 5 i0 (.int .u8 0) 1 Try.underlying30 hi hz0 hz1 _ _ _ (2 * s.size + 2) rfl rfl (by omega) ?b2 ?b3 (Nat.le_refl _) ?_)
  case b2 => rw [hz2]; omega
  case b3 => unfold maxLen; omega
  intro w0 hown0 hgrow0
  have hb0 : Below w.heap.size w w0 := (Below.refl _ _).grown hgrow0 (Nat.le_refl _) (fun k h => by cases h)
  have hsz0 := hb0.size
  go_wp2_with (at_builtin; refine wpList_append_own _ rfl (.tmp 13) (.tmp 14) 30 rfl w.heap.size 5 i0 (.int .u8 0) 1 1 Try.underlying30 hi hz0 hz1 hz2 rfl (by decide) _ _ _ rfl (hown0.alloc _) ⟨w0.heap.size, 0, none⟩ 1 1 [.int .u8 34] rfl rfl (cell_one_new _ _ _) (one_cell _ rfl) (by unfold maxLen; omega) (by omega) (by simp; omega) ?_)
  intro v1 w1 hown1 hgrow1 _
  have hb1 : Below w.heap.size w w1 := (hb0.alloc hsz0 _).grown hgrow1 (by simp; omega) (fun k hk => by cases hk; exact Nat.le_refl _)
  clear hown0 hgrow0 hgrow1 hb0 hsz0
  have hown : w1.ownsRow w.heap.size 5 1 v1 (part e s 0).length (Lib.byteCells (part e s 0)) := by rw [part_zero]; exact hown1
  clear hown1
  go_wp2
  go_loopw [5, 6] (fun v i wr => ∃ k : Nat, k ≤ s.size ∧ i = .int .i64 k ∧ wr.ownsRow w.heap.size 5 1 v (part e s k).length (Lib.byteCells (part e s k)) ∧ Below w.heap.size w wr) (fun _ i _ => s.size - (intOf i).toNat)
  case atStart => exact ⟨0, Nat.zero_le _, rfl, hown, hb1⟩
  case round =>
    clear hown hb1
    obtain ⟨k, hk, rfl, hown, hb⟩ := hrel
    have hsz := hb.size
    have hpl := part_len e s k
    by_cases hlt : k < s.size
    · by_cases hesc : esc e s[k] = true
      · have HS : Hid (part e s (k + 1) = part e s k ++ [92] ++ [s[k]]) := part_esc e s k hlt hesc
        rcases esc_yes hesc with rfl | ⟨rfl, h34⟩ | ⟨rfl, h34, h92⟩
        all_goals
          clear hesc
          go_wp2_with (at_builtin; refine wpList_append_own _ rfl (.tmp 34) (.tmp 35) 30 rfl w.heap.size 5 i0 (.int .u8 0) 1 1 Try.underlying30 hi hz0 hz1 hz2 rfl (by decide) _ _ _ rfl (hown.alloc _) ⟨wr.heap.size, 0, none⟩ 1 1 [.int .u8 92] rfl rfl (cell_one_new _ _ _) (one_cell _ rfl) (by unfold maxLen; omega) (by omega) (by simp; omega) ?_)
          intro v1 w1 hown1 hgrow1 _
          have hb1 : Below w.heap.size w w1 := (hb.alloc hsz _).grown hgrow1 (by simp; omega) (fun k hk => (hown.lt k hk).1)
          have hsz1 := hb1.size
          clear hown hgrow1 hb hsz
          go_wp2_with (at_builtin; refine wpList_append_own _ rfl (.tmp 37) (.tmp 39) 30 rfl w.heap.size 5 i0 (.int .u8 0) 1 1 Try.underlying30 hi hz0 hz1 hz2 rfl (by decide) _ _ _ rfl (hown1.alloc _) ⟨w1.heap.size, 0, none⟩ 1 1 [.int .u8 s[k].toNat] rfl rfl (cell_one_new _ _ _) (one_cell _ rfl) (by unfold maxLen; omega) (by omega) (by simp; omega) ?_)
          intro v2 w2 hown2 hgrow2 _
          have hb2 : Below w.heap.size w w2 := (hb1.alloc hsz1 _).grown hgrow2 (by simp; omega) (fun k hk => (hown1.lt k hk).1)
          have hown3 := own_step2 HS.out hown2
          clear hown1 hgrow2 hb1 hsz1 hown2
          go_wp2
          go_roundw
          case rel => exact ⟨k + 1, by omega, by go_num, hown3, hb2⟩
          case measure => simp [intOf]; omega
      · have HS : Hid (part e s (k + 1) = part e s k ++ [s[k]]) := part_bare e s k hlt (by simpa using hesc)
        obtain ⟨rfl, h34, h92⟩ := esc_no (by simpa using hesc)
        clear hesc
        go_wp2_with (at_builtin; refine wpList_append_own _ rfl (.tmp 37) (.tmp 39) 30 rfl w.heap.size 5 i0 (.int .u8 0) 1 1 Try.underlying30 hi hz0 hz1 hz2 rfl (by decide) _ _ _ rfl (hown.alloc _) ⟨wr.heap.size, 0, none⟩ 1 1 [.int .u8 s[k].toNat] rfl rfl (cell_one_new _ _ _) (one_cell _ rfl) (by unfold maxLen; omega) (by omega) (by simp; omega) ?_)
        intro v2 w2 hown2 hgrow2 _
        have hb2 : Below w.heap.size w w2 := (hb.alloc hsz _).grown hgrow2 (by simp; omega) (fun k hk => (hown.lt k hk).1)
        have hown3 := own_step1 HS.out hown2
        clear hown hgrow2 hb hsz hown2
        go_wp2
        go_roundw
        case rel => exact ⟨k + 1, by omega, by go_num, hown3, hb2⟩
        case measure => simp [intOf]; omega
    · have HS : Hid (part e s k ++ [34] = quoteL e s.data.toList) := part_all e s k (by omega)
      go_wp2_with (at_builtin; refine wpList_append_own _ rfl (.tmp 41) (.tmp 42) 30 rfl w.heap.size 5 i0 (.int .u8 0) 1 1 Try.underlying30 hi hz0 hz1 hz2 rfl (by decide) _ _ _ rfl (hown.alloc _) ⟨wr.heap.size, 0, none⟩ 1 1 [.int .u8 34] rfl rfl (cell_one_new _ _ _) (one_cell _ rfl) (by unfold maxLen; omega) (by omega) (by simp; omega) ?_)
      intro v2 w2 hown2 hgrow2 _
      have hb2 : Below w.heap.size w w2 := (hb.alloc hsz _).grown hgrow2 (by simp; omega) (fun k hk => (hown.lt k hk).1)
      obtain ⟨g, cap, hv, hconv⟩ := own_end HS.out hown2
      clear hown hgrow2 hb hsz hown2
      rw [hv]
      clear hv
      go_wp2
      go_ret
      exact ⟨rfl, hb2⟩

end Go.Proofs.Qxb6601195a

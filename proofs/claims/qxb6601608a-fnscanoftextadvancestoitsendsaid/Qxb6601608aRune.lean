/-
  strings.IndexRune at the two line ends, for whatever rune.
-/
import Derived.Test.Qxb6601608aRows
import Derived.Test.Qxb6601608aShelf
import Derived.Lib.IndexBytes
import Derived.Lib.OthersKept
import Derived.WalkKit
import Derived.WalkSpells
import Derived.WalkLawsBesides
import Derived.Deep.QuietTactic
import Derived.BigQuiet
namespace Go.Proofs.Qxb6601608a
open Go.RowKit

theorem mkHid {p : Prop} (h : p) : Hid p := h
def IsBool (e : Ending) : Prop := ∃ b, e = .returned (.bool b)
theorem isBool (b : Bool) : IsBool (.returned (.bool b)) := ⟨b, rfl⟩

/-- The search's answer: not negative only where the rune is a line end. -/
def IsHit (r : Int) (e : Ending) : Prop := ∃ z : Int, (0 ≤ z → r = 13 ∨ r = 10) ∧ e = .returned (.int .i64 z)

theorem valid_of {r : Int} (h : Lib.validRune r = true) : Utf8.valid r = true := by
  simp only [Lib.validRune, decide_eq_true_eq] at h
  simp [Utf8.valid]
  omega

theorem byteEnd_any (chars : ByteArray) (c : Int) (w : World) (h : chars.size ≤ 2) : Calls Try.prog 49 #[.string (chars.extract 2 chars.size), .int .u8 c] w fun e w' => e = .returned (.int .i64 (-1)) ∧ w' = w := by
  refine (Try.strings_IndexByte _ c w).mono ?_
  rintro e w' ⟨rfl, rfl⟩
  refine ⟨?_, rfl⟩
  rw [Lib.extract_to_end, List.drop_of_length_le (by rw [← Lib.size_eq]; exact h)]
  rfl

set_option maxRecDepth 1000000 in
set_option maxHeartbeats 800000 in
theorem rune_high (chars : ByteArray) (r : Int) (w : World) (hc1 : 2 ≤ chars.size) (hc2 : chars.size ≤ 2) (hca : ((chars[1]'hc1).toNat : Int) < 128) (h0 : 128 ≤ r) (h1 : r ≤ 2147483647) (hne : r ≠ 65533) :
    Calls Try.prog 44 #[.string chars, .int .i32 r] w fun e w' => IsHit r e ∧ Below w.heap.size w w' := by
  have hb : (r == 65533) = false := by rw [beq_eq_false_iff_ne]; exact hne
  clear hne
  cases hv : Lib.validRune r with
  | false =>
    go_enter Try.func44, Try.ntmps44
    go_wp2_with (go_at_call 50; refine (Try.utf8_ValidRune _ _).mono ?_; rintro e w1 ⟨rfl, rfl⟩)
    go_ret
    exact ⟨⟨-1, by omega, rfl⟩, Below.refl _ _⟩
  | true =>
    obtain ⟨hs2, hs4, hl⟩ := encode_facts r (valid_of hv) h0
    have HL := mkHid hl
    clear hl
    by_cases hsz : (Utf8.encode r).size = 2
    · have hp1 : 1 < (Utf8.encode r).size := by omega
      have hl1 : 128 ≤ (((Utf8.encode r)[1]'hp1).toNat : Int) := by
        have := HL.out (by omega)
        simp only [hsz, Nat.reduceSub] at this
        omega
      have hi1 : (1 : Int) < ((Utf8.encode r).size : Int) := by omega
      have hi2 : (1 : Int) < (chars.size : Int) := by omega
      have hneq : (((chars[1]'hc1).toNat : Int) != (((Utf8.encode r)[1]'hp1).toNat : Int)) = true := by
        rw [bne_iff_ne]; omega
      have hwr : IntKind.i64.wrap 2 = 2 := by decide
      have hi3 : (2 : Int) ≤ (chars.size : Int) := by omega
      clear HL hca hl1
      go_enter Try.func44, Try.ntmps44
      go_wp2_with (go_at_call 50; refine (Try.utf8_ValidRune _ _).mono ?_; rintro e w1 ⟨rfl, rfl⟩)
      go_step3
      go_wp2
      go_loop [9] (fun i => i = .int .i64 1) (fun _ => 0)
      case atStart => rfl
      case round =>
        subst hrel
        go_wp2
        go_step3
        go_wp2
        go_quiet (fail)
        have hbq : Below w1.heap.size w1 (w1.drewN nq) := below_drewN (Below.refl _ _) nq
        generalize w1.drewN nq = wq at *
        go_wp2
        go_quiet ((go_at_call 49; exact Calls.quiet_of_same (byteEnd_any _ _ _ hc2)))
        go_wp2
        rw [Exit.noGoto_ret]
        go_wp2
        try rw [Exit.noGoto_ret]
        go_ret
        exact ⟨⟨-1, by omega, rfl⟩, below_drewN hbq _⟩
    · have hs3 : 2 < (Utf8.encode r).size := by omega
      clear hsz hca
      go_enter Try.func44, Try.ntmps44
      go_wp2_with (go_at_call 50; refine (Try.utf8_ValidRune _ _).mono ?_; rintro e w1 ⟨rfl, rfl⟩)
      go_step3
      go_wp2
      go_loop [9] (fun i => i = .int .i64 (((Utf8.encode r).size : Int) - 1)) (fun _ => 0)
      case atStart => rfl
      case round =>
        subst hrel
        go_wp2
        go_ret
        exact ⟨⟨-1, by omega, rfl⟩, Below.refl _ _⟩

set_option maxRecDepth 1000000 in
set_option maxHeartbeats 800000 in
theorem rune_err (chars : ByteArray) (w : World) (hca : ∀ (j : Nat) (h : j < chars.size), (chars[j]'h).toNat < 128) :
    Calls Try.prog 44 #[.string chars, .int .i32 65533] w fun e w' => IsHit 65533 e ∧ Below w.heap.size w w' := by
  have HA := mkHid hca
  clear hca
  go_enter Try.func44, Try.ntmps44
  go_wp2
  go_loopw [5, 6] (fun _ _ wr => ∃ pos : Nat, wr.heap[w.heap.size]? = some (.stringIter chars pos) ∧ Below w.heap.size w wr) (fun _ _ wr => chars.size - wr.iterPos w.heap.size)
  case atStart => exact ⟨0, World.iter_heap w chars 0, (Below.refl _ w).alloc (Nat.le_refl _) _⟩
  case round =>
    obtain ⟨pos, hit, hb⟩ := hrel
    by_cases hp : pos < chars.size
    · have hnx : ∀ ty, (Instr.next (.pointer (some ⟨w.heap.size, 0, none⟩)) true ty).run Try.prog wr = _ := fun ty => Lib.run_next_any_at wr w.heap.size chars pos ty hit hp
      have hlt := HA.out pos hp
      rw [decode_ascii chars pos hp hlt] at hnx
      have t1 : (((chars[pos]'hp).toNat : Int) == 65533) = false := by rw [beq_eq_false_iff_ne]; omega
      have hit2 := mkHid (Lib.iterAt_heap wr w.heap.size chars pos (pos + 1) hit)
      have hb2 := Lib.below_iterAt hb (k := w.heap.size) (by omega) chars (pos + 1)
      have hit' := mkHid hit
      clear hit hb hlt
      go_wp2
      go_roundw
      case rel => exact ⟨pos + 1, hit2.out, hb2⟩
      case measure => simp only [World.iterPos, hit2.out, hit'.out]; omega
    · have hnx : ∀ ty, (Instr.next (.pointer (some ⟨w.heap.size, 0, none⟩)) true ty).run Try.prog wr = _ := fun ty => Lib.run_next_end_at wr w.heap.size chars pos ty hit hp
      go_wp2
      go_ret
      exact ⟨⟨-1, by omega, rfl⟩, hb⟩

end Go.Proofs.Qxb6601608a

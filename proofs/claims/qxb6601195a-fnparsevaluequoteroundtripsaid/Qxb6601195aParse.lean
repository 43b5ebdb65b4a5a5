/-
  The walk of parseValue at a line that holds a quoted text at place pre: it reads the text back.
-/
import Derived.Test.Qxb6601195aBuild
import Derived.Test.Qxb6601195aShelf
import Derived.Test.Qxb6601195aPlace
namespace Go.Proofs.Qxb6601195a
open Go.RowKit

theorem mkHid {p : Prop} (h : p) : Hid p := h

theorem built {B b : Nat} {l l' : List UInt8} {c d : UInt8} {w : World} (h : l' = l ++ [d]) (hc : c = d) (hB : Lib.BuilderAt 33 5 B b (.pointer (some ⟨b, 0, none⟩)) (Lib.byteCells l ++ [.int .u8 (c.toNat : Int)]) w) : Lib.IsBuilder 33 5 B b (Lib.byteCells l') w := by
  subst hc h
  rw [Lib.byteCells_append]
  exact Or.inr hB

set_option maxHeartbeats 1600000 in
theorem parse_any (line : ByteArray) (pre : Nat) (e : Bool) (s : ByteArray) (w : World) (hL : Hid (Laid line pre e s)) (hls : line.size ≤ 4194304) (hss : s.size ≤ 262144) :
    Calls Try.prog 14 #[.string line, .int .i64 pre] w fun en w' => en = .returned (.tuple #[.string s, .int .i64 ((pre + (quoteL e s.data.toList).length : Nat) : Int), .bool true]) ∧ Below w.heap.size w w' := by
  obtain ⟨hp, hp34⟩ := laid_head hL.out
  have h34 : (((line[pre]'hp).toNat : Int) == 34) = true := by rw [hp34]; decide
  clear hp34
  go_enter Try.func14, Try.ntmps14
  go_wp2
  go_loopw [1] (fun i wr => ∃ k j : Nat, k ≤ s.size ∧ i = .int .i64 j ∧ Hid (j = pre + (part e s k).length) ∧ j ≤ line.size ∧ Lib.IsBuilder 33 5 w.heap.size w.heap.size (Lib.byteCells (s.data.toList.take k)) wr ∧ Below w.heap.size w wr) (fun i _ => line.size - (intOf i).toNat)
  case atStart =>
    refine ⟨0, pre + 1, Nat.zero_le _, by go_num, mkHid (by rw [part_zero]; rfl), by omega, Lib.fresh_isBuilder 33 5 w, (Below.refl _ w).alloc (Nat.le_refl _) _⟩
  case round =>
    clear h34
    obtain ⟨k, j, hk, rfl, hj, hjl, hI, hb⟩ := hrel
    have hsz := hb.size
    have hbl : (Lib.byteCells (s.data.toList.take k)).length ≤ 262144 := by rw [Lib.byteCells_length, List.length_take]; omega
    by_cases hlt : k < s.size
    · have hts : Hid (s.data.toList.take (k + 1) = s.data.toList.take k ++ [s[k]]) := mkHid (take_snoc s k hlt)
      by_cases hesc : esc e s[k] = true
      · obtain ⟨h0, h1, e0, e1⟩ := laid_esc hL.out k j hj.out hlt hesc
        have a34 : (((line[j]'h0).toNat : Int) == 34) = false := by rw [e0]; decide
        have a92 : (((line[j]'h0).toNat : Int) == 92) = true := by rw [e0]; decide
        have hne : (((j : Int) + 1) == (line.size : Int)) = false := by rw [beq_eq_false_iff_ne]; omega
        have E1 := mkHid e1
        clear e0 e1
        go_wp2_with (go_at_call 16; refine (writeByte_any w.heap.size w.heap.size _ _ _ hI (by omega) hsz).mono ?_)
        rintro en w1 ⟨rfl, hB1, b1⟩
        have hI1 : Lib.IsBuilder 33 5 w.heap.size w.heap.size (Lib.byteCells (s.data.toList.take (k + 1))) w1 := built hts.out E1.out hB1
        have hJ : Hid (j + 2 = pre + (part e s (k + 1)).length) := mkHid (by rw [part_esc e s k hlt hesc]; simp; have := hj.out; omega)
        clear hB1 hI a34 a92 hne
        go_wp2
        go_roundw
        case rel => exact ⟨k + 1, j + 2, by omega, by go_num, hJ, by omega, hI1, hb.trans b1⟩
        case measure => simp [intOf]; omega
      · have hesc' : esc e s[k] = false := by simpa using hesc
        obtain ⟨h0, e0⟩ := laid_bare hL.out k j hj.out hlt hesc'
        have hn := esc_no hesc'
        have a34 : (((line[j]'h0).toNat : Int) == 34) = false := by rw [e0]; exact hn.2.1
        have a92 : (((line[j]'h0).toNat : Int) == 92) = false := by rw [e0]; exact hn.2.2
        have E1 := mkHid e0
        clear e0 hn
        go_wp2_with (go_at_call 16; refine (writeByte_any w.heap.size w.heap.size _ _ _ hI (by omega) hsz).mono ?_)
        rintro en w1 ⟨rfl, hB1, b1⟩
        have hI1 : Lib.IsBuilder 33 5 w.heap.size w.heap.size (Lib.byteCells (s.data.toList.take (k + 1))) w1 := built hts.out E1.out hB1
        have hJ : Hid (j + 1 = pre + (part e s (k + 1)).length) := mkHid (by rw [part_bare e s k hlt hesc']; simp; have := hj.out; omega)
        clear hB1 hI a34 a92
        go_wp2
        go_roundw
        case rel => exact ⟨k + 1, j + 1, by omega, by go_num, hJ, by omega, hI1, hb.trans b1⟩
        case measure => simp [intOf]; omega
    · obtain ⟨h0, e0⟩ := laid_end hL.out k j hj.out (by omega)
      have a34 : (((line[j]'h0).toNat : Int) == 34) = true := by rw [e0]; decide
      have hF : Hid (j + 1 = pre + (quoteL e s.data.toList).length) := mkHid (by rw [← part_full e s k (by omega)]; have := hj.out; omega)
      have hT : Hid ((⟨(s.data.toList.take k).toArray⟩ : ByteArray) = s) := take_all s k (by omega)
      clear e0
      go_wp2_with (go_at_call 15; refine (Try.Builder_String_any w.heap.size w.heap.size _ _ hI hsz).mono ?_)
      rintro en w1 ⟨rfl, b1⟩
      go_wp2
      go_ret3
      rw [hT.out, ← hF.out]
      exact ⟨by go_num, hb.trans b1⟩

end Go.Proofs.Qxb6601195a

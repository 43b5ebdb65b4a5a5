/-
  The walks of isMarkerByte and expandTabs.
-/
import Derived.Test.Qxb6601257aBuild
import Derived.Test.Qxb6601257aShelf
import Derived.Test.Qxb6601257aShelfB
import Derived.Test.Qxb6601257aWiden
import Derived.Lib.IndexBytes
namespace Go.Proofs.Qxb6601257a
open Go.RowKit

set_option maxHeartbeats 400000 in
theorem isMarker_any (c : Int) (w : World) : Calls Try.prog 13 #[.int .u8 c] w fun e w' => IsBool e ∧ w = w' := by
  go_enter Try.func13, Try.ntmps13
  go_wp2
  all_goals (go_ret; exact ⟨isBool _, rfl⟩)

def IsSpaces (z : Int) (e : Ending) : Prop := ∃ (n : Nat) (t : ByteArray), z = n ∧ t.data.toList = List.replicate n 32 ∧ e = .returned (.string t)

theorem repeatL_one (n : Nat) : Lib.repeatL [32] n = List.replicate n 32 := by
  induction n with
  | zero => rfl
  | succ n ih => rw [Lib.repeatL, ih]; rfl

theorem repeat_any (z : Int) (w : World) (h1 : 1 ≤ z) (h4 : z ≤ 4) :
    Calls Try.prog 16 #[.string ⟨#[32]⟩, .int .i64 z] w fun e w' => IsSpaces z e ∧ Below w.heap.size w w' := by
  obtain ⟨n, rfl⟩ := Int.eq_ofNat_of_zero_le (show 0 ≤ z by omega)
  refine (Try.strings_Repeat _ n w (by omega) ?_).mono ?_
  · show 1 * n ≤ _
    omega
  · rintro e w' ⟨rfl, hb⟩
    exact ⟨⟨n, _, rfl, repeatL_one n, rfl⟩, hb⟩

def IsWid (s : ByteArray) (e : Ending) : Prop := ∃ g : ByteArray, Wid s.data.toList g.data.toList ∧ e = .returned (.string g)

theorem built_str {B b : Nat} {l m : List UInt8} {t : ByteArray} {w : World} (h : t.data.toList = m) (hB : Lib.BuilderAt 35 5 B b (.pointer (some ⟨b, 0, none⟩)) (Lib.byteCells l ++ Lib.strCells t) w) : Lib.IsBuilder 35 5 B b (Lib.byteCells (l ++ m)) w := by
  subst h
  rw [Lib.byteCells_append]
  exact Or.inr hB
theorem built_byte {B b : Nat} {l : List UInt8} {c : UInt8} {w : World} (hB : Lib.BuilderAt 35 5 B b (.pointer (some ⟨b, 0, none⟩)) (Lib.byteCells l ++ [.int .u8 (c.toNat : Int)]) w) : Lib.IsBuilder 35 5 B b (Lib.byteCells (l ++ [c])) w := by
  rw [Lib.byteCells_append]
  exact Or.inr hB

def IsNum (e : Ending) : Prop := ∃ z : Int, e = .returned (.int .i64 z)
theorem indexByte_any (s : ByteArray) (c : Int) (w : World) : Calls Try.prog 14 #[.string s, .int .u8 c] w fun e w' => IsNum e ∧ w = w' := by
  refine (Try.strings_IndexByte s c w).mono ?_
  rintro e w' ⟨rfl, rfl⟩
  exact ⟨⟨_, rfl⟩, rfl⟩

def IsStr (l : List UInt8) (e : Ending) : Prop := ∃ g : ByteArray, g.data.toList = l ∧ e = .returned (.string g)
theorem string_any (B b : Nat) (l : List UInt8) (w : World) (h : Lib.IsBuilder 35 5 B b (Lib.byteCells l) w) (hBw : B ≤ w.heap.size) :
    Calls Try.prog 18 #[.pointer (some ⟨b, 0, none⟩)] w fun e w' => IsStr l e ∧ Below B w w' := by
  refine (Try.Builder_String_any B b l w h hBw).mono ?_
  rintro e w' ⟨rfl, hb⟩
  exact ⟨⟨_, rfl, rfl⟩, hb⟩

set_option maxHeartbeats 3200000 in
theorem expand_any (s : ByteArray) (w : World) (hs : s.size ≤ 1048576) :
    Calls Try.prog 11 #[.string s] w fun e w' => IsWid s e ∧ Below w.heap.size w w' := by
  go_enter Try.func11, Try.ntmps11
  go_wp2
  go_loop [3] (fun i => ∃ k : Nat, k ≤ s.size ∧ i = .int .i64 k) (fun i => s.size - (intOf i).toNat)
  case atStart => exact ⟨0, Nat.zero_le _, rfl⟩
  case round =>
    obtain ⟨k, hk, rfl⟩ := hrel
    by_cases hlt : k < s.size
    · go_wp2_with (go_at_call 13; refine (isMarker_any _ _).mono ?_)
      first | rintro e w1 ⟨⟨b, rfl⟩, rfl⟩ | rintro e ⟨b, rfl⟩
      cases b with
      | true =>
        go_wp2
        go_round
        case rel => exact ⟨k + 1, by omega, by go_num⟩
        case measure => simp [intOf]; omega
      | false =>
        go_wp2_with (go_at_call 14; refine (indexByte_any _ _ _).mono ?_)
        first | rintro e w1 ⟨⟨z, rfl⟩, rfl⟩ | rintro e ⟨z, rfl⟩
        by_cases hz : z < 0
        · go_wp2
          go_ret
          exact ⟨⟨s, Wid.refl _, rfl⟩, Below.refl _ _⟩
        · go_wp2
          go_loopw [5, 6] (fun col i wr => ∃ (c j : Nat) (acc : List UInt8), j ≤ k ∧ c ≤ 4 * j ∧ i = .int .i64 j ∧ col = .int .i64 c ∧ Hid (Wid (s.data.toList.take j) acc) ∧ Lib.IsBuilder 35 5 w.heap.size w.heap.size (Lib.byteCells acc) wr ∧ Below w.heap.size w wr) (fun _ i _ => k - (intOf i).toNat)
          case atStart => exact ⟨0, 0, [], Nat.zero_le _, Nat.zero_le _, rfl, rfl, mkHid (Wid.refl _), Lib.fresh_isBuilder 35 5 w, (Below.refl _ w).alloc (Nat.le_refl _) _⟩
          case round =>
            obtain ⟨c, j, acc, hj, hc, rfl, rfl, hW, hI, hb⟩ := hrel
            have hsz := hb.size
            have hbl : (Lib.byteCells acc).length ≤ 4 * j := by rw [Lib.byteCells_length]; exact wid_len hW.out
            by_cases hjk : j < k
            · have hjs : j < s.size := by omega
              by_cases h9 : s[j] = 9
              · have t9 : (((s[j]'hjs).toNat : Int) == 9) = true := by rw [h9]; decide
                have H9 := mkHid h9
                clear h9
                go_wp2_with (go_at_call 16; refine (repeat_any _ _ (by omega) (by omega)).mono ?_)
                rintro e w1 ⟨⟨n, t, hn, ht, rfl⟩, hb1⟩
                have hI1 := isBuilder_below hI hb1
                have hsz1 := hb1.size
                have hts : t.size = n := by rw [Lib.size_eq, ht, List.length_replicate]
                have Hts := mkHid hts
                have Ht := mkHid ht
                have Hn := mkHid hn
                have hn1 : 1 ≤ n ∧ n ≤ 4 := by omega
                have hts4 : t.size ≤ 4 := by omega
                clear hI hts ht hn
                go_wp2_with (go_at_call 15; refine (writeString_any w.heap.size w.heap.size _ _ _ hI1 (by omega) (by omega)).mono ?_)
                rintro e w2 ⟨rfl, hB2, hb2⟩
                have hI2 : Lib.IsBuilder 35 5 w.heap.size w.heap.size (Lib.byteCells (acc ++ List.replicate n 32)) w2 := built_str Ht.out hB2
                have hW2 : Hid (Wid (s.data.toList.take (j + 1)) (acc ++ List.replicate n 32)) := mkHid (wid_step hjs hW.out (by rw [H9.out]; exact wid_spaces n hn1.1 hn1.2))
                have hb3 : Below w.heap.size w w2 := (hb.trans (hb1.mono hsz)).trans hb2
                clear hI1 hB2 hb hb1 hb2
                go_wp2
                go_roundw
                case rel => exact ⟨c + n, j + 1, _, by omega, by omega, by go_num, by have := Hn.out; go_num, hW2, hI2, hb3⟩
                case measure => simp [intOf]; omega
              · have t9 : (((s[j]'hjs).toNat : Int) == 9) = false := by
                  rw [beq_eq_false_iff_ne]; intro h1; exact h9 (UInt8.toNat_inj.1 (by simpa using (by omega : s[j].toNat = 9)))
                clear h9
                go_wp2_with (go_at_call 17; refine (writeByte_any w.heap.size w.heap.size _ _ _ hI (by omega) (by omega)).mono ?_)
                rintro e w2 ⟨rfl, hB2, hb2⟩
                have hI2 : Lib.IsBuilder 35 5 w.heap.size w.heap.size (Lib.byteCells (acc ++ [s[j]])) w2 := built_byte hB2
                have hW2 : Hid (Wid (s.data.toList.take (j + 1)) (acc ++ [s[j]])) := mkHid (wid_step hjs hW.out (Wid.refl _))
                have hb3 : Below w.heap.size w w2 := hb.trans hb2
                clear hI hB2 hb hb2
                go_wp2
                go_roundw
                case rel => exact ⟨c + 1, j + 1, _, by omega, by omega, by go_num, by go_num, hW2, hI2, hb3⟩
                case measure => simp [intOf]; omega
            · have hjk' : j = k := by omega
              subst hjk'
              have hes : (s.extract j s.size).size ≤ 1048576 := by rw [Lib.size_eq, Lib.extract_to_end, List.length_drop, ← Lib.size_eq]; omega
              go_wp2_with (go_at_call 15; refine (writeString_any w.heap.size w.heap.size _ _ _ hI (by omega) (by omega)).mono ?_)
              rintro e w2 ⟨rfl, hB2, hb2⟩
              have hI2 : Lib.IsBuilder 35 5 w.heap.size w.heap.size (Lib.byteCells (acc ++ s.data.toList.drop j)) w2 := built_str (Lib.extract_to_end s j) hB2
              have hW2 : Hid (Wid s.data.toList (acc ++ s.data.toList.drop j)) := mkHid (wid_tail hW.out)
              have hb3 : Below w.heap.size w w2 := hb.trans hb2
              have hsz2 := hb3.size
              clear hI hB2 hb hb2
              go_wp2_with (go_at_call 18; refine (string_any _ _ _ _ hI2 hsz2).mono ?_)
              rintro e w3 ⟨⟨g, hg, rfl⟩, hb4⟩
              go_wp2
              go_ret
              exact ⟨⟨g, by rw [hg]; exact hW2.out, rfl⟩, hb3.trans hb4⟩
    · go_wp2_with (go_at_call 14; refine (indexByte_any _ _ _).mono ?_)
      first | rintro e w1 ⟨⟨z, rfl⟩, rfl⟩ | rintro e ⟨z, rfl⟩
      by_cases hz : z < 0
      · go_wp2
        go_ret
        exact ⟨⟨s, Wid.refl _, rfl⟩, Below.refl _ _⟩
      · go_wp2
        go_loopw [5, 6] (fun col i wr => ∃ (c j : Nat) (acc : List UInt8), j ≤ k ∧ c ≤ 4 * j ∧ i = .int .i64 j ∧ col = .int .i64 c ∧ Hid (Wid (s.data.toList.take j) acc) ∧ Lib.IsBuilder 35 5 w.heap.size w.heap.size (Lib.byteCells acc) wr ∧ Below w.heap.size w wr) (fun _ i _ => k - (intOf i).toNat)
        case atStart => exact ⟨0, 0, [], Nat.zero_le _, Nat.zero_le _, rfl, rfl, mkHid (Wid.refl _), Lib.fresh_isBuilder 35 5 w, (Below.refl _ w).alloc (Nat.le_refl _) _⟩
        case round =>
          obtain ⟨c, j, acc, hj, hc, rfl, rfl, hW, hI, hb⟩ := hrel
          have hsz := hb.size
          have hbl : (Lib.byteCells acc).length ≤ 4 * j := by rw [Lib.byteCells_length]; exact wid_len hW.out
          by_cases hjk : j < k
          · have hjs : j < s.size := by omega
            by_cases h9 : s[j] = 9
            · have t9 : (((s[j]'hjs).toNat : Int) == 9) = true := by rw [h9]; decide
              have H9 := mkHid h9
              clear h9
              go_wp2_with (go_at_call 16; refine (repeat_any _ _ (by omega) (by omega)).mono ?_)
              rintro e w1 ⟨⟨n, t, hn, ht, rfl⟩, hb1⟩
              have hI1 := isBuilder_below hI hb1
              have hsz1 := hb1.size
              have hts : t.size = n := by rw [Lib.size_eq, ht, List.length_replicate]
              have Hts := mkHid hts
              have Ht := mkHid ht
              have Hn := mkHid hn
              have hn1 : 1 ≤ n ∧ n ≤ 4 := by omega
              have hts4 : t.size ≤ 4 := by omega
              clear hI hts ht hn
              go_wp2_with (go_at_call 15; refine (writeString_any w.heap.size w.heap.size _ _ _ hI1 (by omega) (by omega)).mono ?_)
              rintro e w2 ⟨rfl, hB2, hb2⟩
              have hI2 : Lib.IsBuilder 35 5 w.heap.size w.heap.size (Lib.byteCells (acc ++ List.replicate n 32)) w2 := built_str Ht.out hB2
              have hW2 : Hid (Wid (s.data.toList.take (j + 1)) (acc ++ List.replicate n 32)) := mkHid (wid_step hjs hW.out (by rw [H9.out]; exact wid_spaces n hn1.1 hn1.2))
              have hb3 : Below w.heap.size w w2 := (hb.trans (hb1.mono hsz)).trans hb2
              clear hI1 hB2 hb hb1 hb2
              go_wp2
              go_roundw
              case rel => exact ⟨c + n, j + 1, _, by omega, by omega, by go_num, by have := Hn.out; go_num, hW2, hI2, hb3⟩
              case measure => simp [intOf]; omega
            · have t9 : (((s[j]'hjs).toNat : Int) == 9) = false := by
                rw [beq_eq_false_iff_ne]; intro h1; exact h9 (UInt8.toNat_inj.1 (by simpa using (by omega : s[j].toNat = 9)))
              clear h9
              go_wp2_with (go_at_call 17; refine (writeByte_any w.heap.size w.heap.size _ _ _ hI (by omega) (by omega)).mono ?_)
              rintro e w2 ⟨rfl, hB2, hb2⟩
              have hI2 : Lib.IsBuilder 35 5 w.heap.size w.heap.size (Lib.byteCells (acc ++ [s[j]])) w2 := built_byte hB2
              have hW2 : Hid (Wid (s.data.toList.take (j + 1)) (acc ++ [s[j]])) := mkHid (wid_step hjs hW.out (Wid.refl _))
              have hb3 : Below w.heap.size w w2 := hb.trans hb2
              clear hI hB2 hb hb2
              go_wp2
              go_roundw
              case rel => exact ⟨c + 1, j + 1, _, by omega, by omega, by go_num, by go_num, hW2, hI2, hb3⟩
              case measure => simp [intOf]; omega
          · have hjk' : j = k := by omega
            subst hjk'
            have hes : (s.extract j s.size).size ≤ 1048576 := by rw [Lib.size_eq, Lib.extract_to_end, List.length_drop, ← Lib.size_eq]; omega
            go_wp2_with (go_at_call 15; refine (writeString_any w.heap.size w.heap.size _ _ _ hI (by omega) (by omega)).mono ?_)
            rintro e w2 ⟨rfl, hB2, hb2⟩
            have hI2 : Lib.IsBuilder 35 5 w.heap.size w.heap.size (Lib.byteCells (acc ++ s.data.toList.drop j)) w2 := built_str (Lib.extract_to_end s j) hB2
            have hW2 : Hid (Wid s.data.toList (acc ++ s.data.toList.drop j)) := mkHid (wid_tail hW.out)
            have hb3 : Below w.heap.size w w2 := hb.trans hb2
            have hsz2 := hb3.size
            clear hI hB2 hb hb2
            go_wp2_with (go_at_call 18; refine (string_any _ _ _ _ hI2 hsz2).mono ?_)
            rintro e w3 ⟨⟨g, hg, rfl⟩, hb4⟩
            go_wp2
            go_ret
            exact ⟨⟨g, by rw [hg]; exact hW2.out, rfl⟩, hb3.trans hb4⟩

end Go.Proofs.Qxb6601257a

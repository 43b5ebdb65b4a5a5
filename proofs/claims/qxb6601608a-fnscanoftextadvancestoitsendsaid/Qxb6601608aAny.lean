/-
  strings.IndexAny at the two line ends, for whatever text; lineLength.
-/
import Derived.Test.Qxb6601608aRune
namespace Go.Proofs.Qxb6601608a
open Go.RowKit

/-- A line end. -/
def eolB (c : UInt8) : Bool := c == 13 || c == 10

theorem hit_ascii (r : Int) (h0 : 0 ≤ r) (h1 : r < 128) : IsHit r (.returned (.int .i64 (Lib.indexByte [13, 10] r.toNat.toUInt8))) := by
  refine ⟨_, fun h => ?_, rfl⟩
  obtain ⟨n, rfl⟩ := Int.eq_ofNat_of_zero_le h0
  rw [Int.toNat_natCast] at h
  have hn : (n.toUInt8).toNat = n := by simp; omega
  by_cases e1 : n.toUInt8 = 13
  · left; rw [e1] at hn; simp at hn; omega
  · by_cases e2 : n.toUInt8 = 10
    · right; rw [e2] at hn; simp at hn; omega
    · exfalso
      have f1 : ((13 : UInt8) == n.toUInt8) = false := by rw [beq_eq_false_iff_ne]; exact fun h => e1 h.symm
      have f2 : ((10 : UInt8) == n.toUInt8) = false := by rw [beq_eq_false_iff_ne]; exact fun h => e2 h.symm
      simp [Lib.indexByte, f1, f2] at h

/-- What is asked of the search for one rune among chars. -/
def RuneOk (chars : ByteArray) : Prop := ∀ (r : Int) (w : World), 0 ≤ r → r ≤ 2147483647 → Calls Try.prog 44 #[.string chars, .int .i32 r] w fun e w' => IsHit r e ∧ Below w.heap.size w w'

theorem rune_any : RuneOk ⟨#[13, 10]⟩ := by
  intro r w h0 h1
  by_cases h128 : r < 128
  · refine (Try.strings_IndexRune_ascii _ r w h0 h128).mono ?_
    rintro e w' ⟨rfl, rfl⟩
    exact ⟨hit_ascii r h0 h128, Below.refl _ _⟩
  · by_cases he : r = 65533
    · subst he
      refine rune_err _ w ?_
      intro j h
      have h' : j < 2 := h
      match j, h' with
      | 0, _ => show (13 : UInt8).toNat < 128; decide
      | 1, _ => show (10 : UInt8).toNat < 128; decide
    · exact rune_high _ r w (by decide) (by decide) (by decide) (by omega) h1 he

/-- What the search for a line end answers. -/
def IsEol (s : ByteArray) (e : Ending) : Prop := ∃ z : Int, -1 ≤ z ∧ z < s.size ∧ (z = 0 → ∀ h : 0 < s.size, eolB (s[0]'h) = true) ∧ e = .returned (.int .i64 z)

theorem eol_no (s : ByteArray) : IsEol s (.returned (.int .i64 (-1))) := ⟨-1, by omega, by omega, by omega, rfl⟩
theorem eol_at {s : ByteArray} {pos : Nat} (hp : pos < s.size) (hr : ((Utf8.decode s pos).1 : Int) = 13 ∨ ((Utf8.decode s pos).1 : Int) = 10) : IsEol s (.returned (.int .i64 pos)) := by
  refine ⟨pos, by omega, by omega, fun h0 h => ?_, rfl⟩
  obtain rfl : pos = 0 := by omega
  by_cases ha : (s[0]'h).toNat < 128
  · rw [decode_ascii s 0 h ha] at hr
    simp only at hr
    unfold eolB
    rw [Bool.or_eq_true, beq_iff_eq, beq_iff_eq]
    rcases hr with hr | hr
    · left; exact UInt8.toNat_inj.1 (by show (s[0]'h).toNat = 13; omega)
    · right; exact UInt8.toNat_inj.1 (by show (s[0]'h).toNat = 10; omega)
  · have := decode_high s 0 h (by omega)
    omega

theorem width_pos (s : ByteArray) (pos : Nat) (h : pos < s.size) : 1 ≤ (Utf8.decode s pos).2 := by
  by_cases ha : (s[pos]'h).toNat < 128
  · rw [decode_ascii s pos h ha]
    exact Nat.le_refl _
  · exact (decode_high s pos h (by omega)).2

set_option maxRecDepth 1000000 in
set_option maxHeartbeats 800000 in
theorem any_short (s chars : ByteArray) (w : World) (h2 : 2 ≤ chars.size) (h8 : s.size ≤ 8) (hR : RuneOk chars) :
    Calls Try.prog 42 #[.string s, .string chars] w fun e w' => IsEol s e ∧ Below w.heap.size w w' := by
  have hemp : chars.toList.isEmpty = false := by
    rw [ByteArray.toList_eq]
    cases h : chars.data.toList with
    | nil => have := Lib.size_eq chars; rw [h, List.length_nil] at this; omega
    | cons _ _ => rfl
  have hn1 : ((chars.size : Int) == 1) = false := beq_eq_false_iff_ne.2 (by omega)
  have h8z : decide ((8 : Int) < (s.size : Int)) = false := decide_eq_false (by omega)
  have HR := mkHid hR
  clear hR
  go_enter Try.func42, Try.ntmps42
  go_wp2_with (go_at_call 45; refine (Try.strings_shouldUseASCIISet _ _).mono ?_; rintro e w' ⟨rfl, hw⟩; rw [hw, h8z])
  go_loopw [9, 10] (fun _ _ wr => ∃ pos : Nat, wr.heap[w.heap.size]? = some (.stringIter s pos) ∧ Below w.heap.size w wr) (fun _ _ wr => s.size - wr.iterPos w.heap.size)
  case atStart => exact ⟨0, World.iter_heap w s 0, (Below.refl _ w).alloc (Nat.le_refl _) _⟩
  case round =>
    obtain ⟨pos, hit, hb⟩ := hrel
    by_cases hp : pos < s.size
    · have hnx : ∀ ty, (Instr.next (.pointer (some ⟨w.heap.size, 0, none⟩)) true ty).run Try.prog wr = _ := fun ty => Lib.run_next_any_at wr w.heap.size s pos ty hit hp
      have hwd := width_pos s pos hp
      have hd1 := decode_le s pos
      have hit2 := mkHid (Lib.iterAt_heap wr w.heap.size s pos (pos + (Utf8.decode s pos).2) hit)
      have hb2 := Lib.below_iterAt hb (k := w.heap.size) (by omega) s (pos + (Utf8.decode s pos).2)
      have hit' := mkHid hit
      have hk : w.heap.size < (wr.iterAt w.heap.size s (pos + (Utf8.decode s pos).2)).heap.size := (Array.getElem?_eq_some_iff.1 hit2.out).1
      clear hit hb
      go_wp2_with (go_at_call 44; refine (HR.out _ _ (by omega) (by omega)).mono ?_)
      rintro e w1 ⟨⟨z, hz, rfl⟩, hb3⟩
      have hit3 : Hid (w1.heap[w.heap.size]? = some (.stringIter s (pos + (Utf8.decode s pos).2))) := mkHid (by rw [hb3.block _ hk]; exact hit2.out)
      have hb4 : Below w.heap.size w w1 := hb2.trans (hb3.mono (by omega))
      by_cases hz0 : 0 ≤ z
      · have hz' := mkHid (hz hz0)
        clear hz
        go_wp2
        go_ret
        exact ⟨eol_at hp hz'.out, hb4⟩
      · clear hz
        go_wp2
        go_roundw
        case rel => exact ⟨_, hit3.out, hb4⟩
        case measure => simp only [World.iterPos, hit3.out, hit'.out]; omega
    · have hnx : ∀ ty, (Instr.next (.pointer (some ⟨w.heap.size, 0, none⟩)) true ty).run Try.prog wr = _ := fun ty => Lib.run_next_end_at wr w.heap.size s pos ty hit hp
      go_wp2
      go_ret
      exact ⟨eol_no s, hb⟩

theorem indexAny_lt (chars : List UInt8) : ∀ l : List UInt8, Lib.indexAny l chars < (l.length : Int)
  | [] => by simp [Lib.indexAny]
  | b :: l => by
    have ih := indexAny_lt chars l
    unfold Lib.indexAny
    rw [List.length_cons]
    split
    · omega
    · split
      · omega
      · omega

theorem indexAny_zero {b : UInt8} {l chars : List UInt8} (h : Lib.indexAny (b :: l) chars = 0) : chars.contains b = true := by
  have hg := Lib.indexAny_ge chars l
  unfold Lib.indexAny at h
  split at h
  · assumption
  · split at h
    · omega
    · rename_i h1
      have : Lib.indexAny l chars ≠ -1 := fun e => h1 (by rw [e]; rfl)
      omega

theorem eol_long (s : ByteArray) : IsEol s (.returned (.int .i64 (Lib.indexAny s.data.toList [13, 10]))) := by
  refine ⟨_, Lib.indexAny_ge _ _, ?_, fun h0 h => ?_, rfl⟩
  · have := indexAny_lt [13, 10] s.data.toList
    rwa [← Lib.size_eq] at this
  · have hd : s.data.toList = s[0] :: s.data.toList.drop 1 := by
      have := List.drop_eq_getElem_cons (l := s.data.toList) (i := 0) (by rw [← Lib.size_eq]; exact h)
      rw [List.drop_zero] at this
      exact this
    rw [hd] at h0
    have := indexAny_zero h0
    simpa [eolB] using this

theorem any_any (s : ByteArray) (w : World) (hs : s.size ≤ 1048576) :
    Calls Try.prog 42 #[.string s, .string ⟨#[13, 10]⟩] w fun e w' => IsEol s e ∧ Below w.heap.size w w' := by
  by_cases h8 : 8 < s.size
  · refine (Try.strings_IndexAny_long (by intro w; kernel_rfl) s ⟨#[13, 10]⟩ w (by decide) h8 (by omega) (by decide) ?_).mono ?_
    · intro j b hj
      match j, hj with
      | 0, hj => simp at hj; subst hj; decide
      | 1, hj => simp at hj; subst hj; decide
    · rintro e w' ⟨rfl, rfl⟩
      exact ⟨eol_long s, ((Below.refl _ w).alloc (Nat.le_refl _) _).alloc (by simp) _⟩
  · exact any_short s _ w (by decide) (by omega) rune_any

/-- What lineLength answers: at most the text's length; at least one where the text begins with no line end. -/
def IsLen (s : ByteArray) (e : Ending) : Prop := ∃ n : Nat, n ≤ s.size ∧ (∀ h : 0 < s.size, eolB (s[0]'h) = false → 1 ≤ n) ∧ e = .returned (.int .i64 n)

set_option maxHeartbeats 400000 in
theorem lineLength_any (s : ByteArray) (w : World) (hs : s.size ≤ 1048576) :
    Calls Try.prog 37 #[.string s] w fun e w' => IsLen s e ∧ Below w.heap.size w w' := by
  go_enter Try.func37, Try.ntmps37
  go_wp2_with (go_at_call 42; refine (any_any _ _ hs).mono ?_)
  rintro e w1 ⟨⟨z, hz1, hz2, hz3, rfl⟩, hb⟩
  have HZ := mkHid hz3
  clear hz3
  by_cases h0 : 0 ≤ z
  · go_wp2
    go_ret
    obtain ⟨n, rfl⟩ := Int.eq_ofNat_of_zero_le h0
    refine ⟨⟨n, by omega, fun h he => ?_, rfl⟩, hb⟩
    rcases Nat.eq_zero_or_pos n with hn | hn
    · have := HZ.out (by omega) h
      rw [he] at this
      cases this
    · exact hn
  · go_wp2
    go_ret
    exact ⟨⟨s.size, Nat.le_refl _, fun h _ => h, rfl⟩, hb⟩

end Go.Proofs.Qxb6601608a

/-
  The walks of afterQuote and opening.
-/
import Derived.Test.Qxb6601257aMark
import Derived.Test.Qxb6601257aList
import Derived.Lib.IndexBytes
import Derived.RegionTactic
import Derived.ChangeAlike
namespace Go.Proofs.Qxb6601257a
open Go.RowKit

def IsAfter (s : ByteArray) (e : Ending) : Prop := ∃ d : Nat, d ≤ 1 ∧ d ≤ s.size ∧ e = .returned (.string (s.extract d s.size))

theorem extract_mk (s : ByteArray) (d : Nat) (l : List UInt8) (h : s.data.toList.drop d = l) : (⟨l.toArray⟩ : ByteArray) = s.extract d s.size := by
  apply ByteArray.ext
  apply Array.toList_inj.1
  subst h
  rw [Lib.extract_data, List.take_of_length_le]
  rw [List.length_drop, ← Lib.size_eq]
  exact Nat.le_refl _

theorem ret_string {a b : ByteArray} (h : a = b) : Ending.returned (.string a) = .returned (.string b) := by rw [h]

theorem trim_one (s : ByteArray) : ∃ d : Nat, d ≤ 1 ∧ d ≤ s.size ∧ (⟨(Lib.trimPrefix s.data.toList [32]).toArray⟩ : ByteArray) = s.extract d s.size := by
  unfold Lib.trimPrefix
  split
  · rename_i h
    refine ⟨1, Nat.le_refl _, ?_, extract_mk _ _ _ rfl⟩
    unfold Lib.hasPrefix at h
    rw [Lib.size_eq]
    cases hl : s.data.toList with
    | nil => rw [hl] at h; simp at h
    | cons a l => simp
  · exact ⟨0, by omega, by omega, extract_mk _ _ _ rfl⟩

set_option maxHeartbeats 400000 in
theorem afterQuote_any (s : ByteArray) (w : World) :
    Calls Try.prog 22 #[.string s] w fun e w' => IsAfter s e ∧ w' = w := by
  go_enter Try.func22, Try.ntmps22
  go_wp2_with (go_at_call 31; refine (Try.strings_TrimPrefix _ _ _).mono ?_; rintro e w' ⟨rfl, rfl⟩)
  obtain ⟨d, h1, h2, h3⟩ := trim_one s
  go_ret
  exact ⟨⟨d, h1, h2, ret_string h3⟩, rfl⟩

/-- What 'opening' answers: it refuses the line, which comes back whole; or it cuts off a quote's marker, or a list item's. -/
def Opened (line : ByteArray) (q : Bool) (ind : Int) (rest : ByteArray) (ok : Bool) : Prop :=
  (ok = false ∧ q = false ∧ ind = 0 ∧ rest = line) ∨
  (ok = true ∧ ∃ cut : Nat, cut ≤ line.size ∧ rest = line.extract cut line.size ∧ ((q = true ∧ ind = 0 ∧ 1 ≤ cut ∧ cut ≤ 5) ∨ (q = false ∧ ind = cut ∧ 2 ≤ cut ∧ cut ≤ 17)))
def IsOpened (line : ByteArray) (e : Ending) : Prop :=
  ∃ q ind rest ok, Opened line q ind rest ok ∧ e = .returned (.tuple #[.agg #[.bool q, .int .i64 ind], .string rest, .bool ok])

theorem opened_no (line : ByteArray) : IsOpened line (.returned (.tuple #[.agg #[.bool false, .int .i64 0], .string line, .bool false])) :=
  ⟨_, _, _, _, .inl ⟨rfl, rfl, rfl, rfl⟩, rfl⟩
theorem opened_quote {line rest : ByteArray} (cut : Nat) (h : cut ≤ line.size) (h1 : 1 ≤ cut) (h2 : cut ≤ 5) (hr : rest = line.extract cut line.size) : IsOpened line (.returned (.tuple #[.agg #[.bool true, .int .i64 0], .string rest, .bool true])) :=
  ⟨_, _, _, _, .inr ⟨rfl, cut, h, hr, .inl ⟨rfl, rfl, h1, h2⟩⟩, rfl⟩
theorem opened_item {line rest : ByteArray} {ind : Int} (cut : Nat) (h : cut ≤ line.size) (h1 : 2 ≤ cut) (h2 : cut ≤ 17) (hi : ind = cut) (hr : rest = line.extract cut line.size) : IsOpened line (.returned (.tuple #[.agg #[.bool false, .int .i64 ind], .string rest, .bool true])) :=
  ⟨_, _, _, _, .inr ⟨rfl, cut, h, hr, .inr ⟨rfl, hi, h1, h2⟩⟩, rfl⟩

theorem ext_ext (line : ByteArray) (a d : Nat) : (line.extract a line.size).extract d (line.extract a line.size).size = line.extract (a + d) line.size := by
  apply ByteArray.ext
  apply Array.toList_inj.1
  rw [Lib.extract_to_end, Lib.extract_to_end, Lib.extract_to_end, List.drop_drop]

theorem ext_size (line : ByteArray) (a : Nat) : (line.extract a line.size).size = line.size - a := by
  rw [Lib.size_eq, Lib.extract_to_end, List.length_drop, ← Lib.size_eq]

theorem pre_lt {line : ByteArray} {n : Nat} {c : UInt8} (h : Lib.hasPrefix (line.extract n line.size).data.toList [c] = true) : n < line.size := by
  rw [Lib.extract_to_end] at h
  rw [Lib.size_eq]
  rcases Nat.lt_or_ge n line.data.toList.length with h' | h'
  · exact h'
  · rw [List.drop_of_length_le h'] at h
    simp [Lib.hasPrefix] at h

def IsPre (line : ByteArray) (n : Nat) (e : Ending) : Prop := ∃ p : Bool, (p = true → n < line.size) ∧ e = .returned (.bool p)
theorem hasPrefix_any (line : ByteArray) (n : Nat) (w : World) :
    Calls Try.prog 21 #[.string (line.extract n line.size), .string ⟨#[62]⟩] w fun e w' => IsPre line n e ∧ w' = w := by
  refine (Try.strings_HasPrefix _ _ _).mono ?_
  rintro e w' ⟨rfl, rfl⟩
  exact ⟨⟨_, fun h => pre_lt h, rfl⟩, rfl⟩

set_option maxHeartbeats 1600000 in
theorem opening_any (line : ByteArray) (w : World) (hs : line.size ≤ 1048576) :
    Calls Try.prog 12 #[.string line] w fun e w' => IsOpened line e ∧ Below w.heap.size w w' := by
  go_enter Try.func12, Try.ntmps12
  go_wp2_with (go_at_call 19; refine (indentOf_any _ _ hs).mono ?_)
  rintro e w1 ⟨⟨n, hn, rfl⟩, rfl⟩
  by_cases h3 : 3 < n
  · go_wp2
    exact bodyPost_ret (v := .tuple #[.agg #[.bool false, .int .i64 0], .string line, .bool false]) (by simp [results, Try.results12, go_sem]) rfl ⟨opened_no line, (Below.refl _ _).alloc (Nat.le_refl _) _⟩
  · go_wp2_with (go_at_call 20; refine (thematic_any _ _ hs).mono ?_)
    rintro e w2 ⟨⟨b, rfl⟩, rfl⟩
    cases b with
    | true =>
      go_wp2
      exact bodyPost_ret (v := .tuple #[.agg #[.bool false, .int .i64 0], .string line, .bool false]) (by simp [results, Try.results12, go_sem]) rfl ⟨opened_no line, (Below.refl _ _).alloc (Nat.le_refl _) _⟩
    | false =>
      go_wp2_with (go_at_call 21; refine (hasPrefix_any _ _ _).mono ?_)
      rintro e w2 ⟨⟨p, hp, rfl⟩, rfl⟩
      cases p with
      | true =>
        have hlt : n < line.size := hp rfl
        clear hp
        go_wp2_with (go_at_call 22; refine (afterQuote_any _ _).mono ?_)
        rintro e w2 ⟨⟨d, hd1, hd2, rfl⟩, rfl⟩
        rw [ext_size] at hd2
        go_wp2
        exact bodyPost_ret (v := .tuple #[.agg #[.bool true, .int .i64 0], .string ((line.extract (n + 1) line.size).extract d (line.extract (n + 1) line.size).size), .bool true]) (by simp [results, Try.results12, go_sem]) rfl ⟨opened_quote (n + 1 + d) (by omega) (by omega) (by omega) (ext_ext line (n + 1) d), (Below.refl _ _).alloc (Nat.le_refl _) _⟩
      | false =>
        clear hp
        go_wp2_with (go_at_call 23; refine (listMarker_any _ _ (by rw [ext_size]; omega)).mono ?_)
        rintro e w2 ⟨⟨m, hm, rfl⟩, rfl⟩
        rw [ext_size] at hm
        by_cases hm0 : m = 0
        · subst hm0
          go_wp2
          exact bodyPost_ret (v := .tuple #[.agg #[.bool false, .int .i64 0], .string line, .bool false]) (by simp [results, Try.results12, go_sem]) rfl ⟨opened_no line, (Below.refl _ _).alloc (Nat.le_refl _) _⟩
        · have hm0' : ((m : Int) == 0) = false := by rw [beq_eq_false_iff_ne]; omega
          obtain ⟨h2, h11, hml⟩ : 2 ≤ m ∧ m ≤ 11 ∧ m ≤ line.size - n := by omega
          have hnm : n + m ≤ line.size := by omega
          clear hm hm0
          go_wp2_with (go_at_call 19; refine (indentOf_any _ _ (by rw [ext_size]; omega)).mono ?_)
          rintro e w2 ⟨⟨k, hk, rfl⟩, rfl⟩
          rw [ext_size] at hk
          by_cases h4 : k < 4
          · go_wp2_with (go_at_call 24; refine (isBlank_any _ _ (by rw [ext_size]; omega)).mono ?_)
            rintro e w2 ⟨⟨b, rfl⟩, rfl⟩
            cases b with
            | true =>
              go_wp2
              go_region
              go_wp2
              exact bodyPost_ret (v := .tuple #[.agg #[.bool false, .int .i64 ((n : Int) + (m : Int))], .string (line.extract (n + m) line.size), .bool true]) (by simp [results, Try.results12, go_sem]) rfl ⟨opened_item (n + m) (by omega) (by omega) (by omega) (by omega) rfl, ((Below.refl _ _).alloc (Nat.le_refl _) _).drew⟩
            | false =>
              go_wp2
              go_region
              go_wp2
              exact bodyPost_ret (v := .tuple #[.agg #[.bool false, .int .i64 ((n : Int) + (m : Int) + (k : Int))], .string (line.extract (n + m + k) line.size), .bool true]) (by simp [results, Try.results12, go_sem]) rfl ⟨opened_item (n + m + k) (by omega) (by omega) (by omega) (by omega) rfl, ((Below.refl _ _).alloc (Nat.le_refl _) _).drew⟩
          · go_wp2
            go_region
            go_wp2
            exact bodyPost_ret (v := .tuple #[.agg #[.bool false, .int .i64 ((n : Int) + (m : Int))], .string (line.extract (n + m) line.size), .bool true]) (by simp [results, Try.results12, go_sem]) rfl ⟨opened_item (n + m) (by omega) (by omega) (by omega) (by omega) rfl, ((Below.refl _ _).alloc (Nat.le_refl _) _).drew⟩

end Go.Proofs.Qxb6601257a

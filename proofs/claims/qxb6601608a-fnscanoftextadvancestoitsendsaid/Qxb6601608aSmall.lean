/-
  The small functions: isSpace, skipSpace, lastLine, skipLineEnd, trailingBackslashes.
-/
import Derived.Test.Qxb6601608aAny
namespace Go.Proofs.Qxb6601608a
open Go.RowKit

set_option maxHeartbeats 400000 in
theorem isSpace_any (c : Int) (w : World) : Calls Try.prog 41 #[.int .u8 c] w fun e w' => IsBool e ∧ w' = w := by
  go_enter Try.func41, Try.ntmps41
  go_wp2
  all_goals (go_ret; exact ⟨isBool _, rfl⟩)

/-- A number from a to b. -/
def IsIn (a b : Nat) (e : Ending) : Prop := ∃ n : Nat, a ≤ n ∧ n ≤ b ∧ e = .returned (.int .i64 n)

set_option maxHeartbeats 400000 in
theorem skipSpace_any (s : ByteArray) (p : Nat) (w : World) (hs : s.size ≤ 1048576) (hp : p ≤ s.size) :
    Calls Try.prog 36 #[.string s, .int .i64 p] w fun e w' => IsIn p s.size e ∧ w' = w := by
  go_enter Try.func36, Try.ntmps36
  go_wp2
  go_loop [1] (fun i => ∃ k : Nat, p ≤ k ∧ k ≤ s.size ∧ i = .int .i64 k) (fun i => s.size - (intOf i).toNat)
  case atStart => exact ⟨p, Nat.le_refl _, hp, rfl⟩
  case round =>
    obtain ⟨k, hk1, hk2, rfl⟩ := hrel
    by_cases hlt : k < s.size
    · go_wp2_with (go_at_call 41; refine (isSpace_any _ _).mono ?_)
      first | rintro e w1 ⟨⟨b, rfl⟩, rfl⟩ | rintro e ⟨b, rfl⟩
      cases b with
      | true =>
        go_wp2
        go_round
        case rel => exact ⟨k + 1, by omega, by omega, by go_num⟩
        case measure => simp [intOf]; omega
      | false =>
        go_wp2
        go_ret
        exact ⟨⟨k, hk1, hk2, rfl⟩, rfl⟩
    · go_wp2
      go_ret
      exact ⟨⟨k, hk1, hk2, rfl⟩, rfl⟩

set_option maxHeartbeats 400000 in
theorem lastLine_any (s : ByteArray) (w : World) (hs : s.size ≤ 1048576) :
    Calls Try.prog 38 #[.string s] w fun e w' => IsBool e ∧ Below w.heap.size w w' := by
  go_enter Try.func38, Try.ntmps38
  go_wp2_with (go_at_call 37; refine (lineLength_any _ _ hs).mono ?_)
  rintro e w1 ⟨⟨n, hn, _, rfl⟩, hb⟩
  go_wp2
  all_goals (go_ret; exact ⟨isBool _, hb⟩)

set_option maxHeartbeats 400000 in
theorem trailing_any (s : ByteArray) (w : World) (hs : s.size ≤ 1048576) :
    Calls Try.prog 40 #[.string s] w fun e w' => IsIn 0 s.size e ∧ w' = w := by
  go_enter Try.func40, Try.ntmps40
  go_wp2
  go_loop [3] (fun i => ∃ k : Nat, k ≤ s.size ∧ i = .int .i64 k) (fun i => s.size - (intOf i).toNat)
  case atStart => exact ⟨0, Nat.zero_le _, rfl⟩
  case round =>
    obtain ⟨k, hk2, rfl⟩ := hrel
    by_cases hlt : k < s.size
    · go_wp2
      all_goals first
        | (go_ret; exact ⟨⟨k, Nat.zero_le _, hk2, rfl⟩, rfl⟩)
        | (go_round
           case rel => exact ⟨k + 1, by omega, by go_num⟩
           case measure => simp [intOf]; omega)
    · go_wp2
      go_ret
      exact ⟨⟨k, Nat.zero_le _, hk2, rfl⟩, rfl⟩

theorem pre_two {s : ByteArray} {i : Nat} {a b : UInt8} (h : Lib.hasPrefix (s.extract i s.size).data.toList [a, b] = true) : i + 2 ≤ s.size := by
  rw [Lib.extract_to_end] at h
  unfold Lib.hasPrefix at h
  have := (List.isPrefixOf_iff_prefix.1 h).length_le
  rw [List.length_drop, ← Lib.size_eq] at this
  simp at this
  omega

def IsPre (s : ByteArray) (n : Nat) (e : Ending) : Prop := ∃ p : Bool, (p = true → n + 2 ≤ s.size) ∧ e = .returned (.bool p)
theorem hasPrefix_any (s : ByteArray) (n : Nat) (w : World) :
    Calls Try.prog 43 #[.string (s.extract n s.size), .string ⟨#[13, 10]⟩] w fun e w' => IsPre s n e ∧ w = w' := by
  refine (Try.strings_HasPrefix _ _ _).mono ?_
  rintro e w' ⟨rfl, rfl⟩
  exact ⟨⟨_, fun h => pre_two h, rfl⟩, rfl⟩

/-- Where the next line starts. -/
def IsNext (s : ByteArray) (i : Nat) (e : Ending) : Prop := ∃ n : Nat, i ≤ n ∧ n ≤ s.size ∧ (i < s.size → i < n) ∧ e = .returned (.int .i64 n)

theorem ret_int {a b : Int} (h : a = b) : Ending.returned (.int .i64 a) = .returned (.int .i64 b) := by rw [h]

set_option maxHeartbeats 400000 in
theorem skipLineEnd_any (s : ByteArray) (i : Nat) (w : World) (hs : s.size ≤ 1048576) (hi : i ≤ s.size) :
    Calls Try.prog 39 #[.string s, .int .i64 i] w fun e w' => IsNext s i e ∧ w = w' := by
  go_enter Try.func39, Try.ntmps39
  go_wp2_with (go_at_call 43; refine (hasPrefix_any _ _ _).mono ?_)
  rintro e w1 ⟨⟨p, hp, rfl⟩, rfl⟩
  cases p with
  | true =>
    have h2 : i + 2 ≤ s.size := hp rfl
    clear hp
    go_wp2
    go_ret
    exact ⟨⟨i + 2, by omega, by omega, by omega, by go_num⟩, rfl⟩
  | false =>
    clear hp
    go_wp2
    go_ret
    exact ⟨⟨min (i + 1) s.size, by omega, by omega, by omega, ret_int (by omega)⟩, rfl⟩

end Go.Proofs.Qxb6601608a

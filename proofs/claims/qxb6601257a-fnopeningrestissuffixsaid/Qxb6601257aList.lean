/-
  The walk of listMarker: 0, or between 2 and 11 bytes that the text has.
-/
import Derived.Test.Qxb6601257aSmall
import Derived.Test.Qxb6601257aShelf
namespace Go.Proofs.Qxb6601257a
open Go.RowKit

/-- The call returns 0, or a number from 2 to 11 that is at most n. -/
def IsMark (n : Nat) (e : Ending) : Prop := ∃ m : Nat, (m = 0 ∨ (2 ≤ m ∧ m ≤ 11 ∧ m ≤ n)) ∧ e = .returned (.int .i64 m)
theorem isMark_zero (n : Nat) : IsMark n (.returned (.int .i64 0)) := ⟨0, .inl rfl, rfl⟩
theorem isMark_some {n : Nat} (m : Nat) {z : Int} (hz : z = m) (h1 : 2 ≤ m) (h2 : m ≤ 11) (h3 : m ≤ n) : IsMark n (.returned (.int .i64 z)) := ⟨m, .inr ⟨h1, h2, h3⟩, by rw [hz]⟩

theorem toList_nil (s : ByteArray) (h : ¬ 0 < s.size) : s.toList = [] := by
  rw [ByteArray.toList_eq]
  exact List.eq_nil_of_length_eq_zero (by rw [Array.length_toList]; show s.size = 0; omega)

set_option maxHeartbeats 1600000 in
theorem listMarker_any (s : ByteArray) (w : World) (hs : s.size ≤ 1048576) :
    Calls Try.prog 23 #[.string s] w fun e w' => IsMark s.size e ∧ w' = w := by
  go_enter Try.func23, Try.ntmps23
  go_wp2
  go_loop [3] (fun i => ∃ k : Nat, k ≤ s.size ∧ k ≤ 9 ∧ i = .int .i64 k) (fun i => s.size - (intOf i).toNat)
  case atStart => exact ⟨0, Nat.zero_le _, by omega, rfl⟩
  case round =>
    obtain ⟨k, hk, hk9, rfl⟩ := hrel
    by_cases hlt : k < s.size
    · by_cases h9 : k < 9
      · go_wp2_with (go_at_call 14; refine (Try.strings_IndexByte _ _ _).mono ?_; rintro e w' ⟨rfl, rfl⟩)
        all_goals first
          | (go_ret; exact ⟨isMark_zero _, rfl⟩)
          | (go_ret; exact ⟨isMark_some (k + 2) (by omega) (by omega) (by omega) (by omega), rfl⟩)
          | (go_ret; exact ⟨isMark_some 2 (by omega) (by omega) (by omega) (by omega), rfl⟩)
          | (go_round
             case rel => exact ⟨k + 1, by omega, by omega, by go_num⟩
             case measure => simp [intOf]; omega)
      · go_wp2_with (go_at_call 14; refine (Try.strings_IndexByte _ _ _).mono ?_; rintro e w' ⟨rfl, rfl⟩)
        all_goals first
          | (go_ret; exact ⟨isMark_zero _, rfl⟩)
          | (go_ret; exact ⟨isMark_some (k + 2) (by omega) (by omega) (by omega) (by omega), rfl⟩)
    · go_wp2_with (go_at_call 14; refine (Try.strings_IndexByte _ _ _).mono ?_; rintro e w' ⟨rfl, rfl⟩)
      all_goals first
        | (go_ret; exact ⟨isMark_zero _, rfl⟩)
        | exact (‹¬ s.toList = []› (toList_nil s ‹¬ 0 < s.size›)).elim

end Go.Proofs.Qxb6601257a

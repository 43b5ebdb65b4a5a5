/-
  The small functions on the road of 'opening': indentOf, isBlankLine, isThematicBreak, listMarker.
-/
import Derived.Test.Qxb6601257aRows
import Derived.WalkKit
import Derived.WalkSpells
import Derived.WalkLawsBesides
namespace Go.Proofs.Qxb6601257a
open Go.RowKit

theorem mkHid {p : Prop} (h : p) : Hid p := h

/-- The call returns a bool. -/
def IsBool (e : Ending) : Prop := ∃ b, e = .returned (.bool b)
theorem isBool (b : Bool) : IsBool (.returned (.bool b)) := ⟨b, rfl⟩

set_option maxHeartbeats 400000 in
theorem indentOf_any (s : ByteArray) (w : World) (hs : s.size ≤ 1048576) :
    Calls Try.prog 19 #[.string s] w fun e w' => (∃ n : Nat, n ≤ s.size ∧ e = .returned (.int .i64 n)) ∧ w' = w := by
  go_enter Try.func19, Try.ntmps19
  go_wp2
  go_loop [3] (fun i => ∃ k : Nat, k ≤ s.size ∧ i = .int .i64 k) (fun i => s.size - (intOf i).toNat)
  case atStart => exact ⟨0, Nat.zero_le _, rfl⟩
  case round =>
    obtain ⟨k, hk, rfl⟩ := hrel
    by_cases hlt : k < s.size
    · go_wp2
      all_goals first
        | (go_ret; exact ⟨⟨k, hk, rfl⟩, rfl⟩)
        | (go_round
           case rel => exact ⟨k + 1, by omega, by go_num⟩
           case measure => simp [intOf]; omega)
    · go_wp2
      go_ret
      exact ⟨⟨k, hk, rfl⟩, rfl⟩

set_option maxHeartbeats 400000 in
theorem isBlank_any (s : ByteArray) (w : World) (hs : s.size ≤ 1048576) :
    Calls Try.prog 24 #[.string s] w fun e w' => IsBool e ∧ w' = w := by
  go_enter Try.func24, Try.ntmps24
  go_wp2_with (go_at_call 19; refine (indentOf_any _ _ hs).mono ?_)
  rintro e w' ⟨⟨n, hn, rfl⟩, rfl⟩
  go_wp2
  go_ret
  exact ⟨isBool _, rfl⟩

end Go.Proofs.Qxb6601257a

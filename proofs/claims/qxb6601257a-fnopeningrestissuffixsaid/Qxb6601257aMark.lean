/-
  The walk of isThematicBreak.
-/
import Derived.Test.Qxb6601257aSmall
namespace Go.Proofs.Qxb6601257a
open Go.RowKit

set_option maxHeartbeats 800000 in
theorem thematic_any (s : ByteArray) (w : World) (hs : s.size ≤ 1048576) :
    Calls Try.prog 20 #[.string s] w fun e w' => IsBool e ∧ w' = w := by
  go_enter Try.func20, Try.ntmps20
  go_wp2_with (go_at_call 19; refine (indentOf_any _ _ hs).mono ?_)
  rintro e w' ⟨⟨n, hn, rfl⟩, rfl⟩
  by_cases h3 : 3 < n
  · go_wp2
    go_ret
    exact ⟨isBool _, rfl⟩
  · by_cases hE : n = s.size
    · have hE' : ((n : Int) == (s.size : Int)) = true := by rw [beq_iff_eq]; omega
      clear hE
      go_wp2
      go_ret
      exact ⟨isBool _, rfl⟩
    · have hlt : n < s.size := by omega
      have hE' : ((n : Int) == (s.size : Int)) = false := by rw [beq_eq_false_iff_ne]; omega
      clear hE
      go_wp2
      all_goals try (go_ret; exact ⟨isBool _, rfl⟩)
      all_goals
        go_loop [4, 5] (fun m i => ∃ a k : Nat, n ≤ k ∧ k ≤ s.size ∧ a ≤ k ∧ i = .int .i64 k ∧ m = .int .i64 a) (fun _ i => s.size - (intOf i).toNat)
        case atStart => exact ⟨0, n, Nat.le_refl _, hn, Nat.zero_le _, rfl, rfl⟩
        case round =>
          obtain ⟨a, k, hnk, hk, ha, rfl, rfl⟩ := hrel
          by_cases hlt2 : k < s.size
          · go_wp2
            all_goals first
              | (go_ret; exact ⟨isBool _, rfl⟩)
              | (go_round
                 case rel => first | exact ⟨a + 1, k + 1, by omega, by omega, by omega, by go_num, by go_num⟩ | exact ⟨a, k + 1, by omega, by omega, by omega, by go_num, by go_num⟩
                 case measure => simp [intOf]; omega)
          · go_wp2
            go_ret
            exact ⟨isBool _, rfl⟩

end Go.Proofs.Qxb6601257a

/-
  The walks of ZZOpening and of the law FnOpeningRestIsSuffix.
-/
import Derived.Test.Qxb6601257aOpen
import Derived.Deep.QuietTactic
import Derived.BigQuiet
namespace Go.Proofs.Qxb6601257a
open Go.RowKit

def IsOpened4 (line : ByteArray) (e : Ending) : Prop :=
  ∃ q ind rest ok, Opened line q ind rest ok ∧ e = .returned (.tuple #[.bool q, .int .i64 ind, .string rest, .bool ok])

set_option maxHeartbeats 400000 in
theorem zzOpening_any (line : ByteArray) (w : World) (hs : line.size ≤ 1048576) :
    Calls Try.prog 10 #[.string line] w fun e w' => IsOpened4 line e ∧ Below w.heap.size w w' := by
  go_enter Try.func10, Try.ntmps10
  go_wp2_with (go_at_call 12; refine (opening_any _ _ hs).mono ?_)
  rintro e w1 ⟨⟨q, ind, rest, ok, ho, rfl⟩, hb⟩
  go_wp2
  go_quiet (fail)
  go_wp2
  exact bodyPost_ret (v := .tuple #[.bool q, .int .i64 ind, .string rest, .bool ok]) (by simp [results, Try.results10, go_sem]) rfl ⟨⟨q, ind, rest, ok, ho, rfl⟩, below_drewN (hb.alloc hb.size _) _⟩

set_option maxHeartbeats 400000 in
theorem zzBytes_any (a : ByteArray) (w : World) (ha : a.size ≤ maxLen) :
    Calls Try.prog 9 #[.string a] w fun e w' => IsBool e ∧ w' = w := by
  unfold maxLen at ha
  go_enter Try.func9, Try.ntmps9
  go_wp2
  all_goals (go_ret; exact ⟨isBool _, rfl⟩)

theorem ret_bool {a b : Bool} (h : a = b) : Ending.returned (.bool a) = .returned (.bool b) := by rw [h]

set_option maxHeartbeats 400000 in
theorem openLaw_any (line : ByteArray) (w : World) (hs : line.size ≤ maxLen) :
    Calls Try.prog 5 #[.string line] w fun e w' => e = .returned (.bool true) ∧ Below w.heap.size w w' := by
  go_enter Try.func5, Try.ntmps5
  go_wp2_with (go_at_call 9; refine (zzBytes_any _ _ hs).mono ?_)
  rintro e w1 ⟨⟨b, rfl⟩, rfl⟩
  unfold maxLen at hs
  cases b with
  | false =>
    go_wp2
    go_ret
    exact ⟨rfl, Below.refl _ _⟩
  | true =>
    by_cases hbig : 1048576 < line.size
    · go_wp2
      go_ret
      exact ⟨rfl, Below.refl _ _⟩
    · go_wp2_with (go_at_call 10; refine (zzOpening_any _ _ (by omega)).mono ?_)
      rintro e w1 ⟨⟨q, ind, rest, ok, ho, rfl⟩, hb⟩
      rcases ho with ⟨rfl, rfl, rfl, rfl⟩ | ⟨rfl, cut, hc, hr, ⟨rfl, rfl, h1, h2⟩ | ⟨rfl, rfl, h1, h2⟩⟩
      · go_wp2
        go_ret
        exact ⟨by simp, hb⟩
      · have hrs : rest.size + cut = line.size := by rw [hr, ext_size]; omega
        have hT : ((line.extract (line.size - rest.size) line.size).toList == rest.toList) = true := by rw [show line.size - rest.size = cut from by omega, ← hr]; simp
        clear hr
        go_wp2
        go_ret
        exact ⟨ret_bool (by simp; omega), hb⟩
      · have hrs : rest.size + cut = line.size := by rw [hr, ext_size]; omega
        have hT : ((line.extract (line.size - rest.size) line.size).toList == rest.toList) = true := by rw [show line.size - rest.size = cut from by omega, ← hr]; simp
        have hE : ((cut : Int) == (line.size : Int) - (rest.size : Int)) = true := by rw [beq_iff_eq]; omega
        clear hr
        go_wp2
        go_ret
        exact ⟨ret_bool (by simp; omega), hb⟩

end Go.Proofs.Qxb6601257a

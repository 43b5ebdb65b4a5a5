/-
  The walk of the law FnScanOfTextAdvancesToItsEnd.
-/
import Derived.Test.Qxb6601608aDoors
namespace Go.Proofs.Qxb6601608a
open Go.RowKit

set_option maxHeartbeats 400000 in
theorem zzBytes_any (a : ByteArray) (w : World) (ha : a.size ≤ maxLen) :
    Calls Try.prog 27 #[.string a] w fun e w' => IsBool e ∧ w = w' := by
  unfold maxLen at ha
  go_enter Try.func27, Try.ntmps27
  go_wp2
  all_goals (go_ret; exact ⟨isBool _, rfl⟩)

set_option maxRecDepth 100000 in
set_option maxHeartbeats 800000 in
theorem law_any (s : ByteArray) (w : World) (hs : s.size ≤ maxLen) :
    Calls Try.prog 10 #[.string s] w fun e w' => e = .returned (.bool true) ∧ Below w.heap.size w w' := by
  go_enter Try.func10, Try.ntmps10
  go_wp2_with (go_at_call 27; refine (zzBytes_any _ _ hs).mono ?_)
  rintro e w1 ⟨⟨b, rfl⟩, rfl⟩
  unfold maxLen at hs
  cases b with
  | false =>
    go_wp2
    go_ret
    exact ⟨rfl, Below.refl _ _⟩
  | true =>
    by_cases hbig : 1048576 < s.size
    · go_wp2
      go_ret
      exact ⟨rfl, Below.refl _ _⟩
    · go_wp2
      go_loopw [3, 4] (fun i r wr => ∃ q k : Nat, k ≤ q ∧ q ≤ s.size ∧ i = .int .i64 q ∧ r = .int .i64 k ∧ Below w.heap.size w wr) (fun i _ _ => s.size - (intOf i).toNat)
      case atStart => exact ⟨0, 0, Nat.le_refl _, Nat.zero_le _, rfl, rfl, Below.refl _ _⟩
      case round =>
        obtain ⟨q, k, hkq, hqs, rfl, rfl, hb⟩ := hrel
        have hsz := hb.size
        go_wp2_with (go_at_call 17; refine (zzNext_any s q _ (by omega) hqs).mono ?_)
        rintro e w1 ⟨⟨q1, ok, hq1, hq2, hq3, hq4, rfl⟩, hb1⟩
        have hb2 : Below w.heap.size w w1 := hb.trans (hb1.mono hsz)
        have hsz1 := hb2.size
        clear hb hb1
        cases ok with
        | false =>
          have he : ((q1 : Int) == (s.size : Int)) = true := by rw [beq_iff_eq]; have := hq3 rfl; omega
          clear hq3 hq4
          go_wp2
          go_ret
          exact ⟨rfl, hb2⟩
        | true =>
          obtain ⟨hl, hne⟩ := hq4 rfl
          have HN := mkHid hne
          clear hq3 hq4 hne
          go_wp2_with (go_at_call 23; refine (zzLogical_any s q1 _ (by omega) hl HN.out).mono ?_)
          rintro e w2 ⟨⟨str, q2, a, b, c, h1, h2, rfl⟩, hb3⟩
          have hb4 : Below w.heap.size w w2 := hb2.trans (hb3.mono hsz1)
          clear hb2 hb3
          go_wp2
          go_roundw
          case rel => exact ⟨q2, k + 1, by omega, h2, rfl, by go_num, hb4⟩
          case measure => simp [intOf]; omega

end Go.Proofs.Qxb6601608a

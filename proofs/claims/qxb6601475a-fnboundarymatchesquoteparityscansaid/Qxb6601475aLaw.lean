/-
  The walks of zzBytes, ZZBoundary and the law FnBoundaryMatchesQuoteParityScan.
-/
import Derived.Test.Qxb6601475aClone
namespace Go.Proofs.Qxb6601475a
open Go.RowKit

set_option maxHeartbeats 400000 in
theorem zzBytes_any (a : Option Addr) (n c : Nat) (w : World) (hn : n ≤ maxLen) : Calls Try.prog 8 #[.slice a n c] w fun e w' => IsBool e ∧ w = w' := by
  unfold maxLen at hn
  go_enter Try.func8, Try.ntmps8
  go_wp2
  all_goals (go_ret; exact ⟨isBool _, rfl⟩)

set_option maxHeartbeats 400000 in
theorem zzBoundary_any (B n : Nat) (l : List UInt8) (w : World) (hn : n ≤ 1048576) (hl : l.length = n) (hc : Lies w B l) :
    Calls Try.prog 10 #[.slice (some ⟨B, 0, none⟩) n n] w fun e w' => e = .returned (.int .i64 ((pscan l n).1 : Nat)) ∧ w = w' := by
  go_enter Try.func10, Try.ntmps10
  go_wp2_with (go_at_call 22; refine (boundary_any B n l _ hn hl hc).mono ?_; rintro e w1 ⟨rfl, rfl⟩)
  go_ret
  exact ⟨rfl, rfl⟩

set_option maxHeartbeats 400000 in
theorem zzBoundary_nil (w : World) : Calls Try.prog 10 #[.slice none 0 0] w fun e w' => e = .returned (.int .i64 0) ∧ w = w' := by
  go_enter Try.func10, Try.ntmps10
  go_wp2_with (go_at_call 22; refine (boundary_nil _).mono ?_; rintro e w1 ⟨rfl, rfl⟩)
  go_ret
  exact ⟨rfl, rfl⟩

set_option maxHeartbeats 400000 in
theorem law_nil (w : World) : Calls Try.prog 3 #[.slice none 0 0] w fun e w' => e = .returned (.bool true) ∧ Below w.heap.size w w' := by
  go_enter Try.func3, Try.ntmps3
  go_wp2_with (go_at_call 8; refine (zzBytes_any _ _ _ _ (Nat.zero_le _)).mono ?_)
  rintro e w1 ⟨⟨b, rfl⟩, rfl⟩
  cases b with
  | false =>
    go_wp2
    go_ret
    exact ⟨rfl, Below.refl _ _⟩
  | true =>
    go_wp2_with (first | (go_at_call 9; refine (clone_nil _).mono ?_; rintro e w1 ⟨rfl, rfl⟩) | (go_at_call 10; refine (zzBoundary_nil _).mono ?_; rintro e w1 ⟨rfl, rfl⟩) | (go_at_call 11; refine (parity_nil _).mono ?_; rintro e w1 ⟨rfl, rfl⟩))
    go_ret
    exact ⟨rfl, Below.refl _ _⟩

set_option maxHeartbeats 400000 in
theorem law_empty (x : Addr) (w : World) : Calls Try.prog 3 #[.slice (some x) 0 0] w fun e w' => e = .returned (.bool true) ∧ Below w.heap.size w w' := by
  go_enter Try.func3, Try.ntmps3
  go_wp2_with (go_at_call 8; refine (zzBytes_any _ _ _ _ (Nat.zero_le _)).mono ?_)
  rintro e w1 ⟨⟨b, rfl⟩, rfl⟩
  cases b with
  | false =>
    go_wp2
    go_ret
    exact ⟨rfl, Below.refl _ _⟩
  | true =>
    go_wp2_with (go_at_call 9; refine (clone_empty x _).mono ?_)
    rintro e w1 ⟨⟨rfl, hL⟩, hb⟩
    have HL := mkHid hL
    clear hL
    go_wp2_with (first | (go_at_call 10; refine (zzBoundary_any w.heap.size 0 [] _ (by omega) rfl HL.out).mono ?_; rintro e w1 ⟨rfl, rfl⟩) | (go_at_call 11; refine (parity_any w.heap.size 0 [] _ (by omega) rfl HL.out).mono ?_; rintro e w1 ⟨rfl, rfl⟩))
    go_ret
    exact ⟨by simp, hb⟩

set_option maxHeartbeats 800000 in
theorem law_some (b off len cap : Nat) (zs : List Int) (w : World) (hlen : len ≤ maxLen) (hlc : len ≤ cap) (hz : zs.length = cap) (hbw : len ≠ 0 → b < w.heap.size)
    (hcell : ∀ j, j < len → w.cell? ⟨b, off + j, none⟩ = some (.int .u8 (zs.getD j 0))) (hw : ∀ z ∈ zs, (Lit.int .u8 z).wf = true) :
    Calls Try.prog 3 #[.slice (some ⟨b, off, none⟩) len cap] w fun e w' => e = .returned (.bool true) ∧ Below w.heap.size w w' := by
  have HC := mkHid hcell
  have HW := mkHid hw
  have HZ := mkHid hz
  clear hcell hw hz
  go_enter Try.func3, Try.ntmps3
  go_wp2_with (go_at_call 8; refine (zzBytes_any _ _ _ _ hlen).mono ?_)
  rintro e w1 ⟨⟨x, rfl⟩, rfl⟩
  unfold maxLen at hlen
  cases x with
  | false =>
    go_wp2
    go_ret
    exact ⟨rfl, Below.refl _ _⟩
  | true =>
    by_cases hbig : 1048576 < len
    · go_wp2
      go_ret
      exact ⟨rfl, Below.refl _ _⟩
    · go_wp2_with (go_at_call 9; refine (clone_any b off len cap zs _ (by omega) hlc HZ.out hbw HC.out HW.out).mono ?_)
      rintro e w1 ⟨⟨rfl, hL⟩, hb⟩
      have hll : Hid ((bytesL zs len).length = len) := mkHid (bytesL_length zs len (by rw [HZ.out]; exact hlc))
      have HL := mkHid hL
      clear hL
      generalize bytesL zs len = l at *
      go_wp2_with (first | (go_at_call 10; refine (zzBoundary_any _ _ l _ (by omega) hll.out HL.out).mono ?_; rintro e w1 ⟨rfl, rfl⟩) | (go_at_call 11; refine (parity_any _ _ l _ (by omega) hll.out HL.out).mono ?_; rintro e w1 ⟨rfl, rfl⟩))
      go_ret
      exact ⟨by simp, hb⟩

end Go.Proofs.Qxb6601475a

/-
  The walks of boundaryByParity and boundary: both answer the parity scan's cut.
-/
import Derived.Test.Qxb6601475aLast
namespace Go.Proofs.Qxb6601475a
open Go.RowKit

theorem ret_int {a b : Int} (h : a = b) : Ending.returned (.int .i64 a) = .returned (.int .i64 b) := by rw [h]
theorem byte_no {c : UInt8} {n : Nat} (hn : n < 256) (h : c ≠ UInt8.ofNat n) : ((c.toNat : Int) == (n : Int)) = false := by
  rw [beq_eq_false_iff_ne]; intro h1; exact h (UInt8.toNat_inj.1 (by rw [UInt8.toNat_ofNat']; omega))

set_option maxHeartbeats 800000 in
theorem parity_any (B n : Nat) (l : List UInt8) (w : World) (hn : n ≤ 1048576) (hl : l.length = n) (hc : Lies w B l) :
    Calls Try.prog 11 #[.slice (some ⟨B, 0, none⟩) n n] w fun e w' => e = .returned (.int .i64 ((pscan l n).1 : Nat)) ∧ w = w' := by
  have HC := mkHid hc
  have HL := mkHid hl
  clear hc hl
  go_enter Try.func11, Try.ntmps11
  go_wp2
  go_loop [3, 4, 5] (fun c o i => ∃ (k a : Nat) (b : Bool), k ≤ n ∧ a ≤ k ∧ i = .int .i64 k ∧ c = .int .i64 a ∧ o = .bool b ∧ Hid (pscan l k = (a, b))) (fun _ _ i => n - (intOf i).toNat)
  case atStart => exact ⟨0, 0, true, Nat.zero_le _, Nat.le_refl _, rfl, rfl, rfl, mkHid rfl⟩
  case round =>
    obtain ⟨k, a, b, hk, ha, rfl, rfl, rfl, hp⟩ := hrel
    by_cases hlt : k < n
    · have hll : k < l.length := by rw [HL.out]; exact hlt
      obtain ⟨c, HcE⟩ : ∃ c, Hid (l[k]? = some c) := ⟨l[k], mkHid (List.getElem?_eq_getElem hll)⟩
      have hcell := HC.out k c HcE.out
      clear hll
      by_cases h34 : c = 34
      · have t34 : ((c.toNat : Int) == 34) = true := by rw [h34]; decide
        have hp2 : Hid (pscan l (k + 1) = (a, !b)) := mkHid (pscan_quote (by rw [HcE.out, h34]) hp.out)
        clear h34
        go_wp2
        go_round
        case rel => exact ⟨k + 1, a, !b, by omega, by omega, by go_num, rfl, rfl, hp2⟩
        case measure => simp [intOf]; omega
      · have t34 : ((c.toNat : Int) == 34) = false := byte_no (n := 34) (by omega) h34
        by_cases h10 : c = 10
        · have t10 : ((c.toNat : Int) == 10) = true := by rw [h10]; decide
          cases b with
          | true =>
            have hp2 : Hid (pscan l (k + 1) = (k + 1, true)) := mkHid (pscan_line (by rw [HcE.out, h10]) hp.out)
            clear h34 h10
            go_wp2
            go_round
            case rel => exact ⟨k + 1, k + 1, true, by omega, by omega, by go_num, by go_num, rfl, hp2⟩
            case measure => simp [intOf]; omega
          | false =>
            have hp2 : Hid (pscan l (k + 1) = (a, false)) := mkHid (pscan_else HcE.out h34 (by simp) hp.out)
            clear h34 h10
            go_wp2
            go_round
            case rel => exact ⟨k + 1, a, false, by omega, by omega, by go_num, rfl, rfl, hp2⟩
            case measure => simp [intOf]; omega
        · have t10 : ((c.toNat : Int) == 10) = false := byte_no (n := 10) (by omega) h10
          have hp2 : Hid (pscan l (k + 1) = (a, b)) := mkHid (pscan_else HcE.out h34 (fun _ => h10) hp.out)
          clear h34 h10
          go_wp2
          go_round
          case rel => exact ⟨k + 1, a, b, by omega, by omega, by go_num, rfl, rfl, hp2⟩
          case measure => simp [intOf]; omega
    · obtain rfl : k = n := by omega
      go_wp2
      go_ret
      exact ⟨ret_int (by rw [hp.out]), rfl⟩

theorem idx_end (B : Nat) (w : World) : Calls Try.prog 24 #[.slice (some ⟨B, 0, none⟩) 0 0, .int .u8 34] w fun e w' => e = .returned (.int .i64 (-1)) ∧ w = w' := by
  refine (Try.bytes_IndexByte_at ⟨B, 0, none⟩ 0 0 [] 34 w rfl (fun j hj => absurd hj (by omega))).mono ?_
  rintro e w' ⟨rfl, rfl⟩
  exact ⟨rfl, rfl⟩

theorem last_end (B : Nat) (w : World) : Calls Try.prog 25 #[.slice (some ⟨B, 0, none⟩) 0 0, .int .u8 10] w fun e w' => e = .returned (.int .i64 (-1)) ∧ w = w' := by
  refine (last_any B 0 0 0 [] w (by omega) (by simp) (fun j c h => by simp at h)).mono ?_
  rintro e w' ⟨(⟨rfl, _⟩ | ⟨q, _, hq, _⟩), rfl⟩
  · exact ⟨rfl, rfl⟩
  · omega

theorem end_keep {l : List UInt8} {i n : Nat} {st : Nat × Bool} (hl : l.length = n) (hi : i ≤ n) (hp : pscan l i = st) (h34 : ∀ j, i ≤ j → l[j]? ≠ some 34) (h10 : st.2 = true → ∀ j, i ≤ j → j < n → l[j]? ≠ some 10) : pscan l n = st := by
  have := seg_keep l i st hp (n - i) (by omega) (fun j a _ => h34 j a) (fun o j a b => h10 o j a (by omega))
  rwa [show i + (n - i) = n from by omega] at this

theorem quote_keep {l : List UInt8} {i n q : Nat} {st : Nat × Bool} (hl : l.length = n) (hp : pscan l i = st) (hq : l[i + q]? = some 34) (h34 : ∀ j, i ≤ j → j < i + q → l[j]? ≠ some 34) (h10 : st.2 = true → ∀ j, i ≤ j → j < i + q → l[j]? ≠ some 10) : pscan l (i + q + 1) = (st.1, !st.2) := by
  have hlt := (List.getElem?_eq_some_iff.1 hq).1
  exact pscan_quote hq (seg_keep l i st hp q (by omega) h34 h10)

set_option maxHeartbeats 1600000 in
theorem boundary_any (B n : Nat) (l : List UInt8) (w : World) (hn : n ≤ 1048576) (hl : l.length = n) (hc : Lies w B l) :
    Calls Try.prog 22 #[.slice (some ⟨B, 0, none⟩) n n] w fun e w' => e = .returned (.int .i64 ((pscan l n).1 : Nat)) ∧ w = w' := by
  have HC := mkHid hc
  have HL := mkHid hl
  clear hc hl
  go_enter Try.func22, Try.ntmps22
  go_wp2
  go_loop [3, 4, 5] (fun c f o => ∃ (i a : Nat) (b : Bool), i ≤ n ∧ a ≤ i ∧ f = .int .i64 i ∧ c = .int .i64 a ∧ o = .bool b ∧ Hid (pscan l i = (a, !b))) (fun _ f _ => n + 1 - (intOf f).toNat)
  case atStart => exact ⟨0, 0, false, Nat.zero_le _, Nat.le_refl _, rfl, rfl, rfl, mkHid rfl⟩
  case round =>
    obtain ⟨i, a, b, hi, ha, rfl, rfl, rfl, hp⟩ := hrel
    by_cases hlt : i < n
    · cases b with
      | true =>
        go_wp2_with (go_at_call 24; refine (idx_any B i n _ l _ HL.out (by omega) HC.out).mono ?_)
        first | rintro e w1 ⟨(⟨rfl, hq⟩ | ⟨q, rfl, hq1, hq2⟩), rfl⟩ | rintro e (⟨rfl, hq⟩ | ⟨q, rfl, hq1, hq2⟩)
        · have hfin : Hid ((a : Int) = ((pscan l n).1 : Nat)) := mkHid (by rw [end_keep HL.out hi hp.out hq (by simp)])
          clear hq
          go_wp2
          go_ret
          exact ⟨ret_int hfin.out, rfl⟩
        · have hqn : i + q < n := by have := (List.getElem?_eq_some_iff.1 hq1).1; rw [HL.out] at this; exact this
          have hp2 : Hid (pscan l (i + q + 1) = (a, !false)) := mkHid (quote_keep HL.out hp.out hq1 hq2 (by simp))
          clear hq1 hq2
          go_wp2
          go_round
          case rel => exact ⟨i + q + 1, a, false, by omega, by omega, by go_num, rfl, rfl, hp2⟩
          case measure => simp [intOf]; omega
      | false =>
        go_wp2_with (go_at_call 24; refine (idx_any B i n _ l _ HL.out (by omega) HC.out).mono ?_)
        first | rintro e w1 ⟨(⟨rfl, hq⟩ | ⟨q, rfl, hq1, hq2⟩), rfl⟩ | rintro e (⟨rfl, hq⟩ | ⟨q, rfl, hq1, hq2⟩)
        · have HQ := mkHid hq
          clear hq
          go_wp2_with (go_at_call 25; refine (last_any B i _ _ l _ (by omega) (by rw [HL.out]; omega) HC.out).mono ?_)
          first | rintro e w1 ⟨(⟨rfl, hr⟩ | ⟨r, rfl, hr1, hr2, hr3⟩), rfl⟩ | rintro e (⟨rfl, hr⟩ | ⟨r, rfl, hr1, hr2, hr3⟩)
          · have hfin : Hid ((a : Int) = ((pscan l n).1 : Nat)) := mkHid (by rw [end_keep HL.out hi hp.out HQ.out (fun _ j h1 h2 => hr j h1 (by omega))])
            clear hr
            go_wp2
            go_ret
            exact ⟨ret_int hfin.out, rfl⟩
          · have hfin : Hid ((i + r + 1 : Nat) = (pscan l n).1) := mkHid (by rw [seg_last l i n (i + r) a hp.out (by omega) (by omega) (by rw [HL.out]; exact Nat.le_refl _) (fun j h1 _ => HQ.out j h1) hr2 (fun j h1 h2 => hr3 j h1 (by omega))])
            clear hr2 hr3
            go_wp2
            go_ret
            exact ⟨ret_int (by rw [← hfin.out]; omega), rfl⟩
        · have hqn : i + q < n := by have := (List.getElem?_eq_some_iff.1 hq1).1; rw [HL.out] at this; exact this
          have HQ1 := mkHid hq1
          have HQ2 := mkHid hq2
          clear hq1 hq2
          go_wp2_with (go_at_call 25; refine (last_any B i _ _ l _ (by omega) (by rw [HL.out]; omega) HC.out).mono ?_)
          first | rintro e w1 ⟨(⟨rfl, hr⟩ | ⟨r, rfl, hr1, hr2, hr3⟩), rfl⟩ | rintro e (⟨rfl, hr⟩ | ⟨r, rfl, hr1, hr2, hr3⟩)
          · have hp2 : Hid (pscan l (i + q + 1) = (a, !true)) := mkHid (quote_keep HL.out hp.out HQ1.out HQ2.out (fun _ j h1 h2 => hr j h1 (by omega)))
            clear hr
            go_wp2
            go_round
            case rel => exact ⟨i + q + 1, a, true, by omega, by omega, by go_num, rfl, rfl, hp2⟩
            case measure => simp [intOf]; omega
          · have hp2 : Hid (pscan l (i + q + 1) = (i + r + 1, !true)) := mkHid (pscan_quote (st := (i + r + 1, true)) HQ1.out (seg_last l i (i + q) (i + r) a hp.out (by omega) (by omega) (by rw [HL.out]; omega) HQ2.out hr2 (fun j h1 h2 => hr3 j h1 (by omega))))
            have hrq : r < q := by omega
            clear hr2 hr3
            go_wp2
            go_round
            case rel => exact ⟨i + q + 1, i + r + 1, true, by omega, by omega, by go_num, by go_num, rfl, hp2⟩
            case measure => simp [intOf]; omega
    · obtain rfl : i = n := by omega
      have hfin : Hid ((a : Int) = ((pscan l i).1 : Nat)) := mkHid (by rw [hp.out])
      cases b with
      | true =>
        go_wp2_with (go_at_call 24; refine (idx_end B _).mono ?_; rintro e w1 ⟨rfl, rfl⟩)
        go_ret
        exact ⟨ret_int hfin.out, rfl⟩
      | false =>
        go_wp2_with (first | (go_at_call 24; refine (idx_end B _).mono ?_; rintro e w1 ⟨rfl, rfl⟩) | (go_at_call 25; refine (last_end B _).mono ?_; rintro e w1 ⟨rfl, rfl⟩))
        go_ret
        exact ⟨ret_int hfin.out, rfl⟩

end Go.Proofs.Qxb6601475a

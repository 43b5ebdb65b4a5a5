/-
  The walk of the law FnExpandTabsOnlyWidensTabs.
-/
import Derived.Test.Qxb6601257aExpand
import Derived.Deep.QuietTactic
import Derived.BigQuiet
namespace Go.Proofs.Qxb6601257a
open Go.RowKit

set_option maxHeartbeats 400000 in
theorem zzExpand_any (s : ByteArray) (w : World) (hs : s.size ≤ 1048576) :
    Calls Try.prog 7 #[.string s] w fun e w' => IsWid s e ∧ Below w.heap.size w w' := by
  go_enter Try.func7, Try.ntmps7
  go_wp2_with (go_at_call 11; refine (expand_any _ _ hs).mono ?_)
  rintro e w' ⟨⟨g, hg, rfl⟩, hb⟩
  go_wp2
  go_ret
  exact ⟨⟨g, hg, rfl⟩, hb⟩

set_option maxHeartbeats 400000 in
theorem zzBytesE_any (a : ByteArray) (w : World) (ha : a.size ≤ maxLen) :
    Calls Try.prog 8 #[.string a] w fun e w' => IsBool e ∧ w = w' := by
  unfold maxLen at ha
  go_enter Try.func8, Try.ntmps8
  go_wp2
  all_goals (go_ret; exact ⟨isBool _, rfl⟩)

theorem count_step (s : ByteArray) (k : Nat) (h : k < s.size) : (s.data.toList.take (k + 1)).count 9 = (s.data.toList.take k).count 9 + if s[k] = 9 then 1 else 0 := by
  rw [take_snoc s k h, List.count_append]
  by_cases h9 : s[k] = 9 <;> simp [h9]

theorem count_le (s : ByteArray) (k : Nat) : (s.data.toList.take k).count 9 ≤ k := by
  have h1 : (s.data.toList.take k).length ≤ k := List.length_take_le _ _
  have h2 := List.count_le_length (a := (9 : UInt8)) (l := s.data.toList.take k)
  omega

set_option maxRecDepth 100000 in
set_option maxHeartbeats 3200000 in
theorem expandLaw_any (s : ByteArray) (w : World) (hs : s.size ≤ maxLen) :
    Calls Try.prog 4 #[.string s] w fun e w' => e = .returned (.bool true) ∧ Below w.heap.size w w' := by
  go_enter Try.func4, Try.ntmps4
  go_wp2_with (go_at_call 8; refine (zzBytesE_any _ _ hs).mono ?_)
  rintro e w1 ⟨⟨b, rfl⟩, rfl⟩
  unfold maxLen at hs
  cases b with
  | false =>
    go_wp2
    go_ret
    exact ⟨rfl, Below.refl _ _⟩
  | true =>
    by_cases hbig : 1048576 < s.size
    · go_wp2
      go_ret
      exact ⟨rfl, Below.refl _ _⟩
    · go_wp2_with (go_at_call 7; refine (zzExpand_any _ _ (by omega)).mono ?_)
      rintro e w1 ⟨⟨g, hg, rfl⟩, hb1⟩
      obtain ⟨hg1, hg2, hg3⟩ := hg
      rw [← Lib.size_eq, ← Lib.size_eq] at hg1 hg2
      have Hst := mkHid hg3.symm
      clear hg3
      go_wp2
      go_loop [4, 5] (fun t i => ∃ k : Nat, k ≤ s.size ∧ i = .int .i64 k ∧ t = .int .i64 ((s.data.toList.take k).count 9 : Nat)) (fun _ i => s.size - (intOf i).toNat)
      case atStart => exact ⟨0, Nat.zero_le _, rfl, rfl⟩
      case round =>
        obtain ⟨k, hk, rfl, rfl⟩ := hrel
        have hcl := count_le s k
        by_cases hlt : k < s.size
        · have HS := mkHid (count_step s k hlt)
          by_cases h9 : s[k] = 9
          · have t9 : (((s[k]'hlt).toNat : Int) == 9) = true := by rw [h9]; decide
            have HS2 : Hid ((s.data.toList.take (k + 1)).count 9 = (s.data.toList.take k).count 9 + 1) := mkHid (by rw [HS.out, if_pos h9])
            clear h9 HS
            go_wp2
            go_round
            case rel => exact ⟨k + 1, by omega, by go_num, by rw [HS2.out]; go_num⟩
            case measure => simp [intOf]; omega
          · have t9 : (((s[k]'hlt).toNat : Int) == 9) = false := by
              rw [beq_eq_false_iff_ne]; intro h1; exact h9 (UInt8.toNat_inj.1 (by simpa using (by omega : s[k].toNat = 9)))
            have HS2 : Hid ((s.data.toList.take (k + 1)).count 9 = (s.data.toList.take k).count 9) := mkHid (by rw [HS.out, if_neg h9]; rfl)
            clear h9 HS
            go_wp2
            go_round
            case rel => exact ⟨k + 1, by omega, by go_num, by rw [HS2.out]⟩
            case measure => simp [intOf]; omega
        · have hka : s.data.toList.take k = s.data.toList := List.take_of_length_le (by rw [← Lib.size_eq]; omega)
          rw [hka] at hcl
          rw [hka]
          clear hka
          generalize s.data.toList.count 9 = tabs at *
          go_wp2
          go_loopw [6, 7] (fun si sj wr => ∃ i j : Nat, i ≤ s.size ∧ j ≤ g.size ∧ si = .int .i64 i ∧ sj = .int .i64 j ∧ Hid (strip (s.data.toList.drop i) = strip (g.data.toList.drop j)) ∧ Below w.heap.size w wr) (fun si sj _ => (s.size - (intOf si).toNat) + (g.size - (intOf sj).toNat))
          case atStart => exact ⟨0, 0, Nat.zero_le _, Nat.zero_le _, rfl, rfl, mkHid Hst.out, hb1⟩
          case round =>
            clear hb1 Hst
            obtain ⟨i, j, his, hjg, rfl, rfl, hst, hb⟩ := hrel
            by_cases hi0 : i < s.size
            · go_wp2
              go_loop [6] (fun si => ∃ i' : Nat, i ≤ i' ∧ i' ≤ s.size ∧ si = .int .i64 i' ∧ Hid (strip (s.data.toList.drop i') = strip (g.data.toList.drop j))) (fun si => s.size - (intOf si).toNat)
              case atStart => exact ⟨i, Nat.le_refl _, his, rfl, hst⟩
              case round =>
                obtain ⟨i', hii, his', rfl, hst1⟩ := hrel
                by_cases hlt1 : i' < s.size
                · by_cases hbl1 : blank s[i'] = true
                  · have hst3 : Hid (strip (s.data.toList.drop (i' + 1)) = strip (g.data.toList.drop j)) := mkHid (by rw [strip_blank s i' hlt1 hbl1]; exact hst1.out)
                    rcases blank_yes hbl1 with hy | ⟨hy1, hy2⟩
                    all_goals
                      clear hbl1
                      go_wp2
                      go_round
                      case rel => exact ⟨i' + 1, by omega, by omega, by go_num, hst3⟩
                      case measure => simp [intOf]; omega
                  · have hbn1 : blank s[i'] = false := by simpa using hbl1
                    obtain ⟨hn1, hn2⟩ := blank_no hbn1
                    clear hbl1
                    go_wp2
                    go_loop [7] (fun sj => ∃ j' : Nat, j ≤ j' ∧ j' ≤ g.size ∧ sj = .int .i64 j' ∧ Hid (strip (s.data.toList.drop i') = strip (g.data.toList.drop j'))) (fun sj => g.size - (intOf sj).toNat)
                    case atStart => exact ⟨j, Nat.le_refl _, hjg, rfl, hst1⟩
                    case round =>
                      obtain ⟨j', hjj, hjg', rfl, hst2⟩ := hrel
                      by_cases hlt2 : j' < g.size
                      · by_cases hbl2 : blank g[j'] = true
                        · have hst3 : Hid (strip (s.data.toList.drop i') = strip (g.data.toList.drop (j' + 1))) := mkHid (by rw [strip_blank g j' hlt2 hbl2]; exact hst2.out)
                          rcases blank_yes hbl2 with hy | ⟨hy1, hy2⟩
                          all_goals
                            clear hbl2
                            go_wp2
                            go_round
                            case rel => exact ⟨j' + 1, by omega, by omega, by go_num, hst3⟩
                            case measure => simp [intOf]; omega
                        · have hbn2 : blank g[j'] = false := by simpa using hbl2
                          obtain ⟨hm1, hm2⟩ := blank_no hbn2
                          clear hbl2
                          have hie : ((i' : Int) == (s.size : Int)) = false := by rw [beq_eq_false_iff_ne]; omega
                          have hje : ((j' : Int) == (g.size : Int)) = false := by rw [beq_eq_false_iff_ne]; omega
                          have hh := hst2.out
                          rw [strip_non g j' hlt2 hbn2, strip_non s i' hlt1 hbn1] at hh
                          have heq : s[i'] = g[j'] := List.head_eq_of_cons_eq hh
                          have hst3 : Hid (strip (s.data.toList.drop (i' + 1)) = strip (g.data.toList.drop (j' + 1))) := mkHid (List.tail_eq_of_cons_eq hh)
                          have hne : (((s[i']'hlt1).toNat : Int) != ((g[j']'hlt2).toNat : Int)) = false := by rw [heq]; simp
                          have hli : (i' : Int) < (s.size : Int) := by omega
                          have hlj : (j' : Int) < (g.size : Int) := by omega
                          clear hh heq
                          go_wp2
                          go_quiet (fail)
                          go_wp2
                          go_roundw
                          case rel => exact ⟨i' + 1, j' + 1, by omega, by omega, by go_num, by go_num, hst3, below_drewN hb _⟩
                          case measure => simp [intOf]; omega
                      · exfalso
                        have h1 := hst2.out
                        rw [strip_end g j' (by omega), strip_non s i' hlt1 hbn1] at h1
                        cases h1
                · go_wp2
                  go_loop [7] (fun sj => ∃ j' : Nat, j ≤ j' ∧ j' ≤ g.size ∧ sj = .int .i64 j' ∧ Hid (strip (s.data.toList.drop i') = strip (g.data.toList.drop j'))) (fun sj => g.size - (intOf sj).toNat)
                  case atStart => exact ⟨j, Nat.le_refl _, hjg, rfl, hst1⟩
                  case round =>
                    obtain ⟨j', hjj, hjg', rfl, hst2⟩ := hrel
                    by_cases hlt2 : j' < g.size
                    · by_cases hbl2 : blank g[j'] = true
                      · have hst3 : Hid (strip (s.data.toList.drop i') = strip (g.data.toList.drop (j' + 1))) := mkHid (by rw [strip_blank g j' hlt2 hbl2]; exact hst2.out)
                        rcases blank_yes hbl2 with hy | ⟨hy1, hy2⟩
                        all_goals
                          clear hbl2
                          go_wp2
                          go_round
                          case rel => exact ⟨j' + 1, by omega, by omega, by go_num, hst3⟩
                          case measure => simp [intOf]; omega
                      · have hbn2 : blank g[j'] = false := by simpa using hbl2
                        obtain ⟨hm1, hm2⟩ := blank_no hbn2
                        clear hbl2
                        exfalso
                        have h1 := hst2.out
                        rw [strip_end s i' (by omega), strip_non g j' hlt2 hbn2] at h1
                        cases h1
                    · have hie : ((i' : Int) == (s.size : Int)) = true := by rw [beq_iff_eq]; omega
                      have hje : ((j' : Int) == (g.size : Int)) = true := by rw [beq_iff_eq]; omega
                      go_wp2
                      go_ret
                      exact ⟨rfl, hb⟩
            · by_cases hj0 : j < g.size
              · go_wp2
                go_loop [6] (fun si => ∃ i' : Nat, i ≤ i' ∧ i' ≤ s.size ∧ si = .int .i64 i' ∧ Hid (strip (s.data.toList.drop i') = strip (g.data.toList.drop j))) (fun si => s.size - (intOf si).toNat)
                case atStart => exact ⟨i, Nat.le_refl _, his, rfl, hst⟩
                case round =>
                  obtain ⟨i', hii, his', rfl, hst1⟩ := hrel
                  by_cases hlt1 : i' < s.size
                  · by_cases hbl1 : blank s[i'] = true
                    · have hst3 : Hid (strip (s.data.toList.drop (i' + 1)) = strip (g.data.toList.drop j)) := mkHid (by rw [strip_blank s i' hlt1 hbl1]; exact hst1.out)
                      rcases blank_yes hbl1 with hy | ⟨hy1, hy2⟩
                      all_goals
                        clear hbl1
                        go_wp2
                        go_round
                        case rel => exact ⟨i' + 1, by omega, by omega, by go_num, hst3⟩
                        case measure => simp [intOf]; omega
                    · have hbn1 : blank s[i'] = false := by simpa using hbl1
                      obtain ⟨hn1, hn2⟩ := blank_no hbn1
                      clear hbl1
                      go_wp2
                      go_loop [7] (fun sj => ∃ j' : Nat, j ≤ j' ∧ j' ≤ g.size ∧ sj = .int .i64 j' ∧ Hid (strip (s.data.toList.drop i') = strip (g.data.toList.drop j'))) (fun sj => g.size - (intOf sj).toNat)
                      case atStart => exact ⟨j, Nat.le_refl _, hjg, rfl, hst1⟩
                      case round =>
                        obtain ⟨j', hjj, hjg', rfl, hst2⟩ := hrel
                        by_cases hlt2 : j' < g.size
                        · by_cases hbl2 : blank g[j'] = true
                          · have hst3 : Hid (strip (s.data.toList.drop i') = strip (g.data.toList.drop (j' + 1))) := mkHid (by rw [strip_blank g j' hlt2 hbl2]; exact hst2.out)
                            rcases blank_yes hbl2 with hy | ⟨hy1, hy2⟩
                            all_goals
                              clear hbl2
                              go_wp2
                              go_round
                              case rel => exact ⟨j' + 1, by omega, by omega, by go_num, hst3⟩
                              case measure => simp [intOf]; omega
                          · have hbn2 : blank g[j'] = false := by simpa using hbl2
                            obtain ⟨hm1, hm2⟩ := blank_no hbn2
                            clear hbl2
                            have hie : ((i' : Int) == (s.size : Int)) = false := by rw [beq_eq_false_iff_ne]; omega
                            have hje : ((j' : Int) == (g.size : Int)) = false := by rw [beq_eq_false_iff_ne]; omega
                            have hh := hst2.out
                            rw [strip_non g j' hlt2 hbn2, strip_non s i' hlt1 hbn1] at hh
                            have heq : s[i'] = g[j'] := List.head_eq_of_cons_eq hh
                            have hst3 : Hid (strip (s.data.toList.drop (i' + 1)) = strip (g.data.toList.drop (j' + 1))) := mkHid (List.tail_eq_of_cons_eq hh)
                            have hne : (((s[i']'hlt1).toNat : Int) != ((g[j']'hlt2).toNat : Int)) = false := by rw [heq]; simp
                            have hli : (i' : Int) < (s.size : Int) := by omega
                            have hlj : (j' : Int) < (g.size : Int) := by omega
                            clear hh heq
                            go_wp2
                            go_quiet (fail)
                            go_wp2
                            go_roundw
                            case rel => exact ⟨i' + 1, j' + 1, by omega, by omega, by go_num, by go_num, hst3, below_drewN hb _⟩
                            case measure => simp [intOf]; omega
                        · exfalso
                          have h1 := hst2.out
                          rw [strip_end g j' (by omega), strip_non s i' hlt1 hbn1] at h1
                          cases h1
                  · go_wp2
                    go_loop [7] (fun sj => ∃ j' : Nat, j ≤ j' ∧ j' ≤ g.size ∧ sj = .int .i64 j' ∧ Hid (strip (s.data.toList.drop i') = strip (g.data.toList.drop j'))) (fun sj => g.size - (intOf sj).toNat)
                    case atStart => exact ⟨j, Nat.le_refl _, hjg, rfl, hst1⟩
                    case round =>
                      obtain ⟨j', hjj, hjg', rfl, hst2⟩ := hrel
                      by_cases hlt2 : j' < g.size
                      · by_cases hbl2 : blank g[j'] = true
                        · have hst3 : Hid (strip (s.data.toList.drop i') = strip (g.data.toList.drop (j' + 1))) := mkHid (by rw [strip_blank g j' hlt2 hbl2]; exact hst2.out)
                          rcases blank_yes hbl2 with hy | ⟨hy1, hy2⟩
                          all_goals
                            clear hbl2
                            go_wp2
                            go_round
                            case rel => exact ⟨j' + 1, by omega, by omega, by go_num, hst3⟩
                            case measure => simp [intOf]; omega
                        · have hbn2 : blank g[j'] = false := by simpa using hbl2
                          obtain ⟨hm1, hm2⟩ := blank_no hbn2
                          clear hbl2
                          exfalso
                          have h1 := hst2.out
                          rw [strip_end s i' (by omega), strip_non g j' hlt2 hbn2] at h1
                          cases h1
                      · have hie : ((i' : Int) == (s.size : Int)) = true := by rw [beq_iff_eq]; omega
                        have hje : ((j' : Int) == (g.size : Int)) = true := by rw [beq_iff_eq]; omega
                        go_wp2
                        go_ret
                        exact ⟨rfl, hb⟩
              · go_wp2
                go_ret
                exact ⟨rfl, hb⟩

end Go.Proofs.Qxb6601257a

/-
  The walk of nextLine.
-/
import Derived.Test.Qxb6601608aAt
import Derived.Deep.RegionWith
import Derived.Deep.DrawnRows
import Derived.Deep.LoopGhost
import Derived.Deep.Cut
import Derived.Deep.CutRange
namespace Go.Proofs.Qxb6601608a
open Go.RowKit
attribute [local go_sem ↓] Go.wp_at_zero Go.wp_at_succ

set_option maxRecDepth 100000 in
set_option maxHeartbeats 1600000 in
theorem nextLine_any (b : Nat) (s : ByteArray) (p : Nat) (w : World) (hs : s.size ≤ 1048576) (hp : p ≤ s.size) (h : At w w b s p) :
    Calls Try.prog 29 #[.pointer (some ⟨b, 0, none⟩)] w fun e w' => IsStep s p b e w' ∧ Below b w w' := by
  go_enter Try.func29, Try.ntmps29
  go_wp2
  go_loopg [] (s.size - p) (fun g wr => ∃ q : Nat, q + g = s.size ∧ p ≤ q ∧ At w wr b s q)
  case atStart => exact ⟨p, by omega, Nat.le_refl _, h⟩
  case round =>
    obtain ⟨q, hqg, hpq, hA⟩ := hrel
    have hqs : q ≤ s.size := by omega
    go_upto_region 1 with fail
    go_cut [] from 4 to 95 (fun wx => ∃ n : Nat, q ≤ n ∧ n ≤ s.size ∧ At w wx b s n)
    case first =>
      have d0 := hA.src; have d1 := hA.pos; have d2 := hA.free
      go_region_with (go_at_call 36; refine (skipSpace_any s q _ hs hqs).mono ?_; rintro e w' ⟨⟨n, hn1, hn2, rfl⟩, rfl⟩)
      all_goals (go_wp2_with fail; go_meet; exact ⟨n, hn1, hn2, (hA.set n).drew⟩)
    case rest =>
      obtain ⟨n, hqn, hns, hB⟩ := hcut
      clear hA
      have d0 := hB.src; have d1 := hB.pos; have d2 := hB.free
      by_cases hE : n = s.size
      · have hE' : ((n : Int) == (s.size : Int)) = true := by rw [beq_iff_eq]; omega
        go_wp2
        go_quiet (fail)
        go_wp2
        go_ret
        exact ⟨step_end (by omega) hE (hB.drewN _), below_drewN hB.bel _⟩
      · have hE' : ((n : Int) == (s.size : Int)) = false := by rw [beq_eq_false_iff_ne]; omega
        have hlt : n < s.size := by omega
        have hi1 : (n : Int) ≤ (s.size : Int) := by omega
        clear hE
        go_wp2
        go_quiet (fail)
        have hC := hB.drewN nq
        clear hB d0 d1 d2
        generalize wc.drewN nq = wd at *
        have d0 := hC.src; have d1 := hC.pos; have d2 := hC.free
        go_wp2
        go_quiet (fail)
        have hD := hC.drewN nq
        clear hC d0 d1 d2
        generalize wd.drewN nq = we at *
        have d0 := hD.src; have d1 := hD.pos; have d2 := hD.free
        generalize hT : s.extract n s.size = t at *
        obtain ⟨hts, ht0, htc⟩ := rest_facts hT hlt
        have HT := mkHid hT
        have hts1 : t.size ≤ s.size - n := by omega
        have hts2 : s.size - n ≤ t.size := by omega
        have HC := mkHid htc
        clear hT hts htc
        cases heol : eolB t[0] with
        | true =>
          rcases eol_yes heol with h10 | ⟨h10, h13⟩
          all_goals
            clear heol
            go_wp2
            go_roundg (s.size - (n + 1))
            case measure => omega
            case rel => exact ⟨n + 1, by omega, by omega, hD.setZ (by omega)⟩
        | false =>
          obtain ⟨h10, h13⟩ := eol_non heol
          have HE := mkHid heol
          clear heol
          by_cases hcm : (((t[0]'ht0).toNat : Int) == 35) = true ∨ ((((t[0]'ht0).toNat : Int) == 35) = false ∧ (((t[0]'ht0).toNat : Int) == 33) = true)
          · rcases hcm with h35 | ⟨h35, h33⟩
            all_goals
              go_upto_region 9 with fail
              go_region_with (go_at_call 37; refine (lineLength_any t _ (by omega)).mono ?_; rintro e w1 ⟨⟨m, hm1, hm2, rfl⟩, hb1⟩; have hF : At w w1 b s n := (by first | exact hD.below hb1 | exact hD.drew.below hb1); have e1 := hF.pos; have e2 := hF.free; have hm3 : 1 ≤ m := hm2 ht0 HE.out; clear hm2)
              all_goals
                have hG : At w (w1.setCell ⟨b, 1, none⟩ (.int .i64 (IntKind.i64.wrap ((n : Int) + (m : Int))))) b s (n + m) := hF.setZ (by rw [wrap_small _ (by omega) (by omega)]; omega)
                clear hD d0 d1 d2 hF e1 e2
                go_wp2
                go_roundg (s.size - (n + m))
                case measure => omega
                case rel => exact ⟨n + m, by omega, by omega, hG⟩
          · have h35 : (((t[0]'ht0).toNat : Int) == 35) = false := by
              cases e : (((t[0]'ht0).toNat : Int) == 35) with
              | true => exact absurd (Or.inl e) hcm
              | false => rfl
            have h33 : (((t[0]'ht0).toNat : Int) == 33) = false := by
              cases e : (((t[0]'ht0).toNat : Int) == 33) with
              | true => exact absurd (Or.inr ⟨h35, e⟩) hcm
              | false => rfl
            clear hcm
            have hok : Hid (eolB (s[n]'hlt) = false) := mkHid (by rw [← HC.out]; exact HE.out)
            go_wp2_with (go_at_call 37; refine (lineLength_any t _ (by omega)).mono ?_)
            rintro e w1 ⟨⟨m, hm1, hm2, rfl⟩, hb1⟩
            have hF : At w w1 b s n := hD.below hb1
            clear hD d0 d1 d2 hm2 hb1
            by_cases hm : m = 1
            · have hm' : ((m : Int) == 1) = true := by rw [beq_iff_eq]; omega
              by_cases h92 : (((t[0]'ht0).toNat : Int) == 92) = true
              · go_wp2_with (go_at_call 38; refine (lastLine_any t _ (by omega)).mono ?_)
                rintro e w2 ⟨⟨x, rfl⟩, hb2⟩
                have hG := hF.below hb2
                clear hF hb2
                cases x with
                | true =>
                  go_wp2
                  go_ret
                  exact ⟨step_ok (by omega) hlt hok.out hG, hG.bel⟩
                | false =>
                  have d0 := hG.src; have d1 := hG.pos; have d2 := hG.free
                  have hwn : IntKind.i64.wrap ((n : Int) + 1) = (n : Int) + 1 := wrap_small _ (by omega) (by omega)
                  go_upto_region 11 with fail
                  go_region_with (go_at_call 39; refine (skipLineEnd_z s _ (n + 1) _ (by omega) hs (by omega)).mono ?_; rintro e w3 ⟨⟨j, hj1, hj2, hj3, rfl⟩, rfl⟩)
                  all_goals
                    have hH := (hG.set j).drew
                    clear hG d0 d1 d2 hj3
                    go_wp2
                    go_roundg (s.size - j)
                    case measure => omega
                    case rel => exact ⟨j, by omega, by omega, hH⟩
              · have h92' : (((t[0]'ht0).toNat : Int) == 92) = false := by simpa using h92
                clear h92
                go_wp2
                go_ret
                exact ⟨step_ok (by omega) hlt hok.out hF, hF.bel⟩
            · have hm' : ((m : Int) == 1) = false := by rw [beq_eq_false_iff_ne]; omega
              clear hm
              go_wp2
              go_ret
              exact ⟨step_ok (by omega) hlt hok.out hF, hF.bel⟩

end Go.Proofs.Qxb6601608a

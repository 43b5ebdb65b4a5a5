/-
  The walk of logicalLine.
-/
import Derived.Test.Qxb6601608aLn
import Derived.Laws.BytesArg
import Derived.Laws.IdiomStrings
import Derived.RegionTactic
import Derived.BigRegion
import Derived.Deep.RegionWith
import Derived.Deep.RegionLaw
import Derived.Deep.AppendLies
import Derived.Deep.DrawnRows
import Derived.Deep.LoopGhost
import Derived.Deep.Cut
import Derived.Deep.CutRange
namespace Go.Proofs.Qxb6601608a
open Go.RowKit
attribute [local go_sem ↓] Go.wp_at_zero Go.wp_at_succ

theorem info5 : (Try.prog.info? 5).map (fun i => (i.zero, i.size, i.bytes)) = some (some (.int .u8 0), 1, 1) := by kernel_rfl
theorem info51 : (Try.prog.info? 51).map (fun i => (i.zero, i.size, i.bytes)) = some (some (.agg #[.int .i64 0, .int .i64 0]), 2, 16) := by kernel_rfl

theorem ext_size2 (s : ByteArray) (q m : Nat) (h : q + m ≤ s.size) : (s.extract q (q + m)).size = m := by
  rw [Lib.size_eq, Lib.extract_data, List.length_take, List.length_drop, ← Lib.size_eq]
  omega

theorem ext_le (s : ByteArray) (a b : Nat) : (s.extract a b).size ≤ s.size := by
  rw [Lib.size_eq, Lib.extract_data, List.length_take, List.length_drop, ← Lib.size_eq]
  omega
theorem ext_b1 (s : ByteArray) (a b n : Nat) (hs : s.size ≤ 1048576) (hn : n ≤ 1048576) : n + (s.extract a b).size ≤ maxLen := by
  have := ext_le s a b
  unfold maxLen; omega
theorem ext_b2 (s : ByteArray) (a b n : Nat) (hs : s.size ≤ 1048576) (hn : n ≤ 1048576) : n + (s.extract a b).size ≤ 140737488355328 := by
  have := ext_le s a b
  omega

theorem ext_b3 (s : ByteArray) (q b n m : Nat) (hn : n ≤ q) (hb : b ≤ q + m) : n + (s.extract q b).size ≤ q + m := by
  rw [Lib.size_eq, Lib.extract_data, List.length_take]
  omega

/-- What a row of bytes reads as. -/
theorem own_conv {w : World} {base : Nat} {ao : Option Addr} {n cap : Nat} {l : List UInt8} (h : w.ownsRow base 5 1 (.slice ao n cap) n (Lib.byteCells l)) :
    ∃ str, (convert 28 9 (.slice ao n cap)).run Try.prog w = .ok (.string str) w := by
  have hn : l.length = n := by have := h.1; rw [Lib.byteCells_length] at this; omega
  have h' := h
  rcases h'.2 with ⟨hv, _⟩ | ⟨g, c, cur, hv, _⟩
  · rw [hv]
    exact ⟨_, run_convert_bytes_nil w 28 5 Try.underlying28 Try.underlying5 0 0 9 Try.underlying9⟩
  · subst hn
    rw [hv] at h ⊢
    refine ⟨_, run_convert_bytes_back w 28 9 5 _ c l Try.underlying28 Try.underlying5 Try.underlying9 fun j hj => ?_⟩
    have := h.cellAt j (by omega)
    rw [show (⟨g, 0, none⟩ : Addr).add j = ⟨g, j, none⟩ from by unfold Addr.add; split <;> simp_all, this]
    simp [Lib.byteCells, hj]

/-- What logicalLine answers and leaves. -/
def IsLog (s : ByteArray) (p b : Nat) (w0 : World) (e : Ending) (w' : World) : Prop :=
  ∃ (str : ByteArray) (q : Nat) (ap : Option Addr) (np cp : Nat) (al : Option Addr) (nl cl : Nat), p < q ∧ q ≤ s.size ∧ np ≤ 1048577 ∧ Ln w0 w' b s q ap np cp al nl cl ∧ e = .returned (.string str)

/-- append(line, text...) as a step of a region that draws. -/
theorem step_append_str {P : Program} (w : World) {ops : Array Oper} {o : Oper} {a : Act} {K : Act → World → Prop} {Q : Exit → Act → World → Prop} {E : Prop} (hgd : o.guard = none) (sl x : Operand) (t u : TypeId)
    (ho : o.op = .call { callee := .builtin .append, args := #[sl, x], argTypes := #[t, u] })
    (base : Nat) (e : TypeId) (i : TypeInfo) (ht : P.underlying t = some (.slice e)) (hu : P.underlying u = some .string) (hi : P.info? e = some i) (hz : i.zero = some (.int .u8 0))
    (hsize : i.size = 1) (hby : i.bytes = 1)
    (v : Value) (n : Nat) (l : List UInt8) (hs : a.eval sl = v) (hown : w.ownsRow base e 1 v n (Lib.byteCells l)) (s : ByteArray) (hx : a.eval x = .string s)
    (h63 : n + s.size ≤ maxLen) (hbytes : n + s.size ≤ 140737488355328) (hbase : base ≤ w.heap.size) (N : Nat) (hN : n + s.size ≤ N)
    (h : ∀ ao n' cap l' w', n' ≤ N → w'.ownsRow base e 1 (.slice ao n' cap) n' (Lib.byteCells l') → w.grownBy w' v.ownBlock → K (a.put o.dst (.slice ao n' cap)) w') :
    if Region.wanted o (yielded ops a.tmps) = true then Oper.wp P o a w K Q else E := by
  have hw : Region.wanted o (yielded ops a.tmps) = true := by simp [Region.wanted, hgd]
  rw [if_pos hw]
  obtain ⟨v', w', hr, h2, h3, _⟩ := Lib.run_append_own_string (P := P) w base t u o.type e i ht hu hi hz hsize hby v n (Lib.byteCells l) hown s h63 hbytes hbase
  obtain ⟨ao, cap, rfl⟩ : ∃ ao cap, v' = .slice ao (n + s.size) cap := by
    rcases h2.2 with ⟨hv, h0⟩ | ⟨g, cap, cur, hv, _⟩
    · exact ⟨none, 0, by rw [hv, h0]⟩
    · exact ⟨_, _, hv⟩
  unfold Oper.wp execOp
  simp only [ho, resolve, invoke, builtin, Sem.run_bind, Sem.run_pure, Result.andThen_ok, List.map_toArray, List.map_cons, List.map_nil, hs, hx, hr]
  exact h ao _ cap (l ++ s.data.toList) w' hN (by rw [Lib.byteCells_append]; exact h2) h3

set_option maxRecDepth 100000 in
set_option maxHeartbeats 1600000 in
theorem logical_any (b : Nat) (s : ByteArray) (p : Nat) (w : World) (hs : s.size ≤ 1048576) (hp : p < s.size) (hpe : eolB (s[p]'hp) = false) (h : Ln w w b s p none 0 0 none 0 0) :
    Calls Try.prog 32 #[.pointer (some ⟨b, 0, none⟩)] w fun e w' => IsLog s p b w e w' := by
  have HP := mkHid hpe
  clear hpe
  have c0 := h.src; have c1 := h.pos; have f1 := h.free1; have c2 := h.c2; have f2 := h.free2; have c3 := h.c3; have f3 := h.free3
  go_enter Try.func32, Try.ntmps32
  go_wp2
  go_cut [] from 6 to 21 (fun wx => Ln w wx b s p none 0 0 none 0 0)
  case first =>
    go_region
    go_wp2_with fail
    go_meet
    exact h.same2.same3.drew
  case rest =>
    clear c0 c1 f1 c2 f2 c3 f3
    go_wp2
    go_loopg [3, 4, 5] (s.size - p) (fun g _ _ _ wr => ∃ (q : Nat) (ap : Option Addr) (np cp : Nat) (al : Option Addr) (nl cl : Nat), q + g = s.size ∧ p ≤ q ∧ (q = p → np = 0) ∧ np ≤ q ∧ nl ≤ q ∧ Ln w wr b s q ap np cp al nl cl)
    case atStart => exact ⟨p, none, 0, 0, none, 0, 0, by omega, Nat.le_refl _, fun _ => rfl, Nat.zero_le _, Nat.zero_le _, hcut⟩
    case round =>
      clear hcut h
      obtain ⟨q, ap, np, cp, al, nl, cl, hqg, hpq, hq0, hnp, hnl, hA⟩ := hrel
      have hqs : q ≤ s.size := by omega
      have hqz : (q : Int) ≤ (s.size : Int) := by omega
      have c0 := hA.src; have c1 := hA.pos
      have hts : (s.extract q s.size).size = s.size - q := by rw [Lib.size_eq, Lib.extract_to_end, List.length_drop, ← Lib.size_eq]
      have HT := mkHid hts
      clear hts
      go_wp2_with (go_at_call 37; refine (lineLength_any _ _ (by rw [HT.out]; omega)).mono ?_)
      rintro e w1 ⟨⟨m, hm1, hm2, rfl⟩, hb1⟩
      rw [HT.out] at hm1
      have HM := mkHid hm2
      have hB := hA.below hb1
      clear hA c0 c1 hm2 hb1
      go_upto_region 4 with fail
      go_cut [] from 22 to 136 (fun wx => ∃ (ap' : Option Addr) (cp' : Nat), Ln w wx b s q ap' (np + 1) cp' al nl cl)
      case first =>
        obtain ⟨xs, hx, hi⟩ := hB.own2
        have c0 := hB.src; have c1 := hB.pos; have f1 := hB.free1; have c2 := hB.c2; have f2 := hB.free2; have c3 := hB.c3; have f3 := hB.free3
        have hlt1 := hB.lt
        obtain ⟨i0, hi0, hz0, hz1, hz2⟩ := info_parts info51
        go_region_law ((refine step_append_lies _ (by rfl) _ _ _ (by rfl) (b + 1) 51 i0 _ 2 16 Try.underlying44 hi0 hz0 hz1 hz2 rfl (by omega) (.slice ap np cp) np xs (by rfl) ((hx.alloc _).drew) ⟨w1.heap.size, 0, none⟩ 1 1 [.int .i64 nl, .int .i64 q] (by rfl) (by rfl) (World.news_of_block (cs := #[.int .i64 nl, .int .i64 q]) (t := 51) (fr := (0, 0)) (heap_alloc_new w1 _)) (by simp [Value.oneCell']) (by omega) (by unfold maxLen; omega) (by omega) (by simp; omega) (w1.heap.size + 1) (by simp) ?_; intro g cap w2 hown1 hgrow hat hlt; have hG := grown_of_alloc hgrow; have k2 := (grown_cell hG hlt1 (own_above hx) 2).1.trans c2; have kf2 := (grown_cell hG hlt1 (own_above hx) 2).2.trans f2; clear hgrow))
        all_goals (go_wp2_with fail; go_meet; exact ⟨_, _, hB.app2 hx (hi.two _ _) hown1 hG⟩)
      case rest =>
        clear hB
        obtain ⟨ap', cp', hC⟩ := hcut
        have c0 := hC.src; have c1 := hC.pos; have f1 := hC.free1
        have hms : Hid ((s.extract q (q + m)).size = m) := mkHid (ext_size2 s q m (by omega))
        go_wp2_with (first | (go_at_call 39; refine (skipLineEnd_z s _ (q + m) _ (by omega) hs (by omega)).mono ?_; rintro e w3 ⟨⟨j, hj1, hj2, hj3, rfl⟩, rfl⟩) | (go_at_call 40; refine (trailing_any _ _ (by rw [hms.out]; omega)).mono ?_))
        first | rintro e w4 ⟨⟨k, _, hk, rfl⟩, rfl⟩ | rintro e ⟨k, _, hk, rfl⟩
        rw [hms.out] at hk
        have hD := hC.setPos (z := (j : Int)) (n := j) rfl
        generalize wc.setCell ⟨b, 1, none⟩ (.int .i64 (j : Int)) = wd at *
        have hpj : p < j := by
          rcases Nat.lt_or_ge p q with h1 | h1
          · omega
          · have hpq' : q = p := by omega
            have h0 : 0 < (s.extract q s.size).size := by rw [HT.out]; omega
            have hm1' := HM.out h0 (by
              obtain ⟨_, h2, h3⟩ := rest_facts (s := s) (n := q) rfl (by omega)
              rw [h3]
              subst hpq'
              exact HP.out)
            omega
        clear hC c0 c1 f1 hj3 HM
        have c0 := hD.src; have c1 := hD.pos; have f1 := hD.free1; have c2 := hD.c2; have f2 := hD.free2; have c3 := hD.c3; have f3 := hD.free3
        by_cases hodd : k % 2 = 1
        · have hodd' : ((k : Int) % 2 == 1) = true := by rw [beq_iff_eq]; omega
          have hk1 : 1 ≤ m := by omega
          go_upto_region 12 with fail
          go_cut [] from 22 to 136 (fun wx => ∃ (al' : Option Addr) (nl' cl' : Nat), nl' ≤ q + m ∧ Ln w wx b s j ap' (np + 1) cp' al' nl' cl')
          case first =>
            obtain ⟨l, hl⟩ := hD.own3
            have hltd := hD.lt
            have hw1 : IntKind.i64.wrap ((q : Int) + (m : Int) - 1) = (q : Int) + (m : Int) - 1 := wrap_small _ (by omega) (by omega)
            have hw2 : (0 : Int) ≤ (q : Int) + (m : Int) - 1 := by omega
            have hw3 : (q : Int) + (m : Int) - 1 ≤ (s.size : Int) := by omega
            have hw4 : (q : Int) ≤ (q : Int) + (m : Int) - 1 := by omega
            obtain ⟨i0, hi0, hz0, hz1, hz2⟩ := info_parts info5
            go_region_law ((refine step_append_str _ (by rfl) _ _ _ _ (by rfl) (b + 1) 5 i0 Try.underlying28 Try.underlying9 hi0 hz0 hz1 hz2 (.slice al nl cl) nl l (by rfl) (hl.drew) _ (by rfl) (ext_b1 s _ _ _ hs (by omega)) (ext_b2 s _ _ _ hs (by omega)) (by simp; omega) (q + m) (ext_b3 s _ _ _ _ hnl (by omega)) ?_; intro al' nl' cl' l' w2 hnl' hown1 hgrow; have hG := grown_of_drew hgrow; have k2 := (grown_cell hG hltd (own_above hl) 3).1.trans c3; have kf2 := (grown_cell hG hltd (own_above hl) 3).2.trans f3; clear hgrow))
            all_goals (go_wp2_with fail; go_meet; exact ⟨_, _, _, hnl', hD.app3 hl hown1 hG⟩)
          case rest =>
            clear hD c0 c1 f1 c2 f2 c3 f3
            obtain ⟨al', nl', cl', hnl', hE⟩ := hcut
            go_upto_region 13 with fail
            have c0 := hE.src; have c1 := hE.pos; have f1 := hE.free1
            go_region_with (go_at_call 36; refine (skipSpace_any s j _ hs (by omega)).mono ?_; rintro e w' ⟨⟨n, hn1, hn2, rfl⟩, rfl⟩)
            all_goals
              have hF := (hE.setPos (z := (n : Int)) (n := n) rfl).drew
              clear hE c0 c1 f1
              go_wp2
              go_roundg (s.size - n)
              case measure => omega
              case rel => exact ⟨n, ap', np + 1, cp', al', nl', cl', by omega, by omega, by omega, by omega, by omega, hF⟩
        · have hodd' : ((k : Int) % 2 == 1) = false := by rw [beq_eq_false_iff_ne]; omega
          by_cases hn0 : np = 0
          · have hn0' : (((np : Int) + 1) == 1) = true := by rw [beq_iff_eq]; omega
            go_wp2
            go_ret
            exact ⟨_, j, _, _, _, _, _, _, hpj, hj2, by omega, hD, rfl⟩
          · have hn0' : (((np : Int) + 1) == 1) = false := by rw [beq_eq_false_iff_ne]; omega
            go_upto_region 10 with fail
            go_cut [] from 22 to 136 (fun wx => ∃ (al' : Option Addr) (nl' cl' : Nat), Ln w wx b s j ap' (np + 1) cp' al' nl' cl')
            case first =>
              obtain ⟨l, hl⟩ := hD.own3
              have hltd := hD.lt
              have hw3 : (q : Int) + (m : Int) ≤ (s.size : Int) := by omega
              have hw4 : (q : Int) ≤ (q : Int) + (m : Int) := by omega
              obtain ⟨i0, hi0, hz0, hz1, hz2⟩ := info_parts info5
              go_region_law ((refine step_append_str _ (by rfl) _ _ _ _ (by rfl) (b + 1) 5 i0 Try.underlying28 Try.underlying9 hi0 hz0 hz1 hz2 (.slice al nl cl) nl l (by rfl) (hl.drew) _ (by rfl) (ext_b1 s _ _ _ hs (by omega)) (ext_b2 s _ _ _ hs (by omega)) (by simp; omega) (q + m) (ext_b3 s _ _ _ _ hnl (by omega)) ?_; intro al' nl' cl' l' w2 hnl' hown1 hgrow; have hG := grown_of_drew hgrow; have k2 := (grown_cell hG hltd (own_above hl) 3).1.trans c3; have kf2 := (grown_cell hG hltd (own_above hl) 3).2.trans f3; clear hgrow))
              all_goals (go_wp2_with fail; go_meet; exact ⟨_, _, _, hD.app3 hl hown1 hG⟩)
            case rest =>
              clear hD c0 c1 f1 c2 f2 c3 f3
              obtain ⟨al', nl', cl', hE⟩ := hcut
              obtain ⟨l, hl⟩ := hE.own3
              obtain ⟨str, hconv⟩ := own_conv hl
              have c3 := hE.c3
              go_wp2
              go_ret
              exact ⟨str, j, _, _, _, _, _, _, hpj, hj2, by omega, hE, rfl⟩

end Go.Proofs.Qxb6601608a

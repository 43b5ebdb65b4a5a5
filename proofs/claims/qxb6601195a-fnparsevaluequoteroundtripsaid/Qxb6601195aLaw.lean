/-
  The walk of the law itself.
-/
import Derived.Test.Qxb6601195aParse
namespace Go.Proofs.Qxb6601195a
open Go.RowKit

set_option maxHeartbeats 400000 in
theorem zzBytes_any (a b c : ByteArray) (d : Bool) (w : World) (ha : a.size ≤ maxLen) (hb : b.size ≤ maxLen) (hc : c.size ≤ maxLen) :
    Calls Try.prog 10 #[.string a, .string b, .string c, .bool d] w fun e w' => (∃ x, e = .returned (.bool x)) ∧ w' = w := by
  unfold maxLen at ha hb hc
  go_enter Try.func10, Try.ntmps10
  go_wp2
  all_goals (go_ret; exact ⟨⟨_, rfl⟩, rfl⟩)

theorem quote_some (s : ByteArray) (e : Bool) (w : World) (hs : s.size ≤ 262144) :
    Calls Try.prog 11 #[.string s, .bool e] w fun en w' => ∃ q : ByteArray, en = .returned (.string q) ∧ Hid (q.data.toList = quoteL e s.data.toList) ∧ q.size ≤ 524290 ∧ Below w.heap.size w w' := by
  refine (quote_any s e w hs).mono ?_
  rintro en w' ⟨rfl, hb⟩
  refine ⟨_, rfl, mkHid (by simp), ?_, hb⟩
  have := qbody_len e s.data.toList
  have h2 : s.data.toList.length = s.size := Array.length_toList
  show (quoteL e s.data.toList).toArray.size ≤ 524290
  rw [List.size_toArray]
  simp only [quoteL, List.length_cons, List.length_append, List.length_nil]
  omega

set_option maxHeartbeats 400000 in
theorem zzParse_any (line : ByteArray) (pre n : Nat) (e : Bool) (s : ByteArray) (w : World) (hL : Hid (Laid line pre e s)) (hn : Hid ((quoteL e s.data.toList).length = n)) (hls : line.size ≤ 4194304) (hss : s.size ≤ 262144) :
    Calls Try.prog 12 #[.string line, .int .i64 pre] w fun en w' => en = .returned (.tuple #[.string s, .int .i64 ((pre : Int) + (n : Int)), .bool true]) ∧ Below w.heap.size w w' := by
  go_enter Try.func12, Try.ntmps12
  go_wp2_with (go_at_call 14; refine (parse_any line pre e s _ hL hls hss).mono ?_)
  rintro en w' ⟨rfl, hb⟩
  rw [hn.out]
  go_wp2
  go_ret3
  exact ⟨rfl, hb⟩

theorem laid_of (a q c s : ByteArray) (e : Bool) (hq : q.data.toList = quoteL e s.data.toList) : Laid (a ++ q ++ c) a.size e s := by
  refine ⟨c.data.toList, ?_⟩
  have h1 : (a ++ q ++ c).data.toList = a.data.toList ++ (q.data.toList ++ c.data.toList) := by simp
  have h2 : a.size = a.data.toList.length := Array.length_toList.symm
  rw [h1, h2, List.drop_left, hq]

set_option maxHeartbeats 800000 in
theorem law_great (a b c : ByteArray) (d : Bool) (w : World) (ha : a.size ≤ maxLen) (hb : b.size ≤ maxLen) (hc : c.size ≤ maxLen) (h : 262144 < a.size ∨ 262144 < b.size ∨ 262144 < c.size) :
    Calls Try.prog 5 #[.string a, .string b, .string c, .bool d] w fun e w' => e = .returned (.bool true) ∧ Below w.heap.size w w' := by
  by_cases h1 : 262144 < a.size
  all_goals by_cases h2 : 262144 < b.size
  all_goals by_cases h3 : 262144 < c.size
  all_goals try (exfalso; omega)
  all_goals
    clear h
    go_enter Try.func5, Try.ntmps5
    go_wp2_with (go_at_call 10; refine (zzBytes_any _ _ _ _ _ ha hb hc).mono ?_)
    rintro e w' ⟨⟨x, rfl⟩, rfl⟩
    cases x
    all_goals
      go_wp2
      go_ret
      exact ⟨rfl, Below.refl _ _⟩

set_option maxHeartbeats 800000 in
theorem law_main (a b c : ByteArray) (d : Bool) (w : World) (ha : a.size ≤ 262144) (hb : b.size ≤ 262144) (hc : c.size ≤ 262144) :
    Calls Try.prog 5 #[.string a, .string b, .string c, .bool d] w fun e w' => e = .returned (.bool true) ∧ Below w.heap.size w w' := by
  go_enter Try.func5, Try.ntmps5
  go_wp2_with (go_at_call 10; refine (zzBytes_any _ _ _ _ _ (by unfold maxLen; omega) (by unfold maxLen; omega) (by unfold maxLen; omega)).mono ?_)
  rintro e w' ⟨⟨x, rfl⟩, rfl⟩
  cases x with
  | false =>
    go_wp2
    go_ret
    exact ⟨rfl, Below.refl _ _⟩
  | true =>
    go_wp2_with (go_at_call 11; refine (quote_some _ _ _ hb).mono ?_)
    rintro e w1 ⟨q, rfl, hq, hqs, hb1⟩
    have hls : (a ++ q ++ c).size ≤ 4194304 := by rw [ByteArray.size_append, ByteArray.size_append]; omega
    go_wp2_with (go_at_call 12; refine (zzParse_any (a ++ q ++ c) a.size q.size d b _ (mkHid (laid_of a q c b d hq.out)) (mkHid (by rw [← hq.out]; exact Array.length_toList)) hls hb).mono ?_)
    rintro e w2 ⟨rfl, hb2⟩
    go_wp2
    go_ret
    exact ⟨by simp, hb1.trans (hb2.mono hb1.size)⟩

theorem law_any (a b c : ByteArray) (d : Bool) (w : World) (ha : a.size ≤ maxLen) (hb : b.size ≤ maxLen) (hc : c.size ≤ maxLen) :
    Calls Try.prog 5 #[.string a, .string b, .string c, .bool d] w fun e w' => e = .returned (.bool true) ∧ Below w.heap.size w w' := by
  by_cases h1 : 262144 < a.size ∨ 262144 < b.size ∨ 262144 < c.size
  · exact law_great a b c d w ha hb hc h1
  · exact law_main a b c d w (by omega) (by omega) (by omega)

end Go.Proofs.Qxb6601195a

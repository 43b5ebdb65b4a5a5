/-
  The walk of cloneBytes: the copy lies in a new block.
-/
import Derived.Test.Qxb6601475aBound
import Derived.OpenShut
import Derived.Lib.SliceRun
namespace Go.Proofs.Qxb6601475a
open Go.RowKit

theorem info5 : (Try.prog.info? 5).map (fun i => (i.zero, i.size, i.bytes)) = some (some (.int .u8 0), 1, 1) := by kernel_rfl

/-- The bytes that the numbers are. -/
def bytesL (zs : List Int) (n : Nat) : List UInt8 := (zs.take n).map fun z => UInt8.ofNat z.toNat

theorem bytesL_length (zs : List Int) (n : Nat) (h : n ≤ zs.length) : (bytesL zs n).length = n := by
  simp [bytesL, h]
theorem bytesL_at {zs : List Int} {n j : Nat} {c : UInt8} (hw : ∀ z ∈ zs, (Lit.int .u8 z).wf = true) (h : (bytesL zs n)[j]? = some c) : j < n ∧ zs.getD j 0 = (c.toNat : Int) := by
  unfold bytesL at h
  rw [List.getElem?_map, Option.map_eq_some_iff] at h
  obtain ⟨z, hz, rfl⟩ := h
  rw [List.getElem?_take] at hz
  split at hz
  · rename_i hj
    refine ⟨hj, ?_⟩
    have hb := bounds_u8 (hw z (List.mem_of_getElem? hz))
    rw [List.getD, hz]
    simp
    omega
  · cases hz

/-- What cloneBytes answers of a slice that is not nil. -/
def IsClone (B n : Nat) (l : List UInt8) (e : Ending) (w' : World) : Prop := e = .returned (.slice (some ⟨B, 0, none⟩) n n) ∧ Lies w' B l

theorem lies_of_own {w : World} {B n : Nat} {zs : List Int} {xs : List Value} (hw : ∀ z ∈ zs, (Lit.int .u8 z).wf = true)
    (hown : w.ownsRow B 5 1 (.slice (some ⟨B, 0, none⟩) n n) n xs) (hx : ∀ j, j < n → xs[j]? = some (.int .u8 (zs.getD j 0))) : Lies w B (bytesL zs n) := by
  intro j c hj
  obtain ⟨h1, h2⟩ := bytesL_at hw hj
  rw [hown.cellAt j (by omega), hx j h1, h2]

theorem set_at {xs : List Value} {k : Nat} {zs : List Int} (hk : k < xs.length) (h : ∀ j, j < k → xs[j]? = some (.int .u8 (zs.getD j 0))) :
    ∀ j, j < k + 1 → (xs.set k (.int .u8 (zs.getD k 0)))[j]? = some (.int .u8 (zs.getD j 0)) := by
  intro j hj
  by_cases e : j = k
  · subst e; simp [hk]
  · rw [List.getElem?_set_ne (fun h => e h.symm)]; exact h j (by omega)

set_option maxHeartbeats 800000 in
theorem clone_any (b off len cap : Nat) (zs : List Int) (w : World) (hlen : len ≤ 1048576) (hlc : len ≤ cap) (hz : zs.length = cap) (hbw : len ≠ 0 → b < w.heap.size)
    (hcell : ∀ j, j < len → w.cell? ⟨b, off + j, none⟩ = some (.int .u8 (zs.getD j 0))) (hw : ∀ z ∈ zs, (Lit.int .u8 z).wf = true) :
    Calls Try.prog 9 #[.slice (some ⟨b, off, none⟩) len cap] w fun e w' => IsClone w.heap.size len (bytesL zs len) e w' ∧ Below w.heap.size w w' := by
  obtain ⟨i0, hi, hz0, hz1, hz2⟩ := info_parts info5
  have q22 : ∀ (w : World) (a : Option Addr) (n c n' c' : Nat), (binOp .eql 22 (.slice a n c) (.slice none n' c')).run Try.prog w = .ok (.bool a.isNone) w := fun w a n c n' c' => Lib.run_eql_slice_nil w _ _ a n c n' c' Try.underlying22
  have HZ := mkHid hz
  have HW := mkHid hw
  clear hz hw
  go_enter Try.func9, Try.ntmps9
  go_wp2_with (at_make; refine wpList_make_full _ rfl _ _ 22 rfl w.heap.size 5 i0 (.int .u8 0) 1 Try.underlying22 hi hz0 hz1 _ _ _ _ len rfl rfl rfl rfl ?b2 ?b3 (Nat.le_refl _) ?_)
  case b2 => rw [hz2]; omega
  case b3 => unfold maxLen; omega
  intro w0 hown0 hgrow0
  have hb0 : Below w.heap.size w w0 := (Below.refl _ _).grown hgrow0 (Nat.le_refl _) (fun k h => by cases h)
  clear hgrow0 q22
  go_wp2
  go_loopw [4] (fun i wr => ∃ (k : Nat) (xs : List Value), k ≤ len ∧ i = .int .i64 k ∧ wr.ownsRow w.heap.size 5 1 (.slice (some ⟨w.heap.size, 0, none⟩) len len) len xs ∧ Hid (∀ j, j < k → xs[j]? = some (.int .u8 (zs.getD j 0))) ∧ Below w.heap.size w wr) (fun i _ => len - (intOf i).toNat)
  case atStart => exact ⟨0, _, Nat.zero_le _, rfl, hown0, mkHid (fun j h => by omega), hb0⟩
  case round =>
    clear hown0 hb0
    obtain ⟨k, xs, hk, rfl, hown, hx, hb⟩ := hrel
    have hsz := hb.size
    by_cases hlt : k < len
    · have hxl : k < xs.length := by have := hown.1; omega
      have hsrc : wr.cell? ⟨b, off + k, none⟩ = some (.int .u8 (zs.getD k 0)) := (hb.cell (by exact hbw (by omega))).trans (hcell k hlt)
      have hdst : wr.cell? ⟨w.heap.size, k, none⟩ = some xs[k] := by rw [hown.cellAt k (by omega), List.getElem?_eq_getElem hxl]
      have hfz := hown.frozenAt k
      have hx2 : Hid (∀ j, j < k + 1 → (xs.set k (.int .u8 (zs.getD k 0)))[j]? = some (.int .u8 (zs.getD j 0))) := mkHid (set_at hxl hx.out)
      have HS := mkHid (hown.stored k (.int .u8 (zs.getD k 0)))
      clear hown
      go_wp2
      go_roundw
      case rel => exact ⟨k + 1, _, by omega, by go_num, HS.out.1, hx2, hb.grown HS.out.2 hsz (fun m hm => by cases hm; exact Nat.le_refl _)⟩
      case measure => simp [intOf]; omega
    · obtain rfl : k = len := by omega
      go_wp2
      go_ret
      exact ⟨⟨rfl, lies_of_own HW.out hown hx.out⟩, hb⟩

set_option maxHeartbeats 400000 in
theorem clone_empty (x : Addr) (w : World) : Calls Try.prog 9 #[.slice (some x) 0 0] w fun e w' => IsClone w.heap.size 0 [] e w' ∧ Below w.heap.size w w' := by
  obtain ⟨i0, hi, hz0, hz1, hz2⟩ := info_parts info5
  have q22 : ∀ (w : World) (a : Option Addr) (n c n' c' : Nat), (binOp .eql 22 (.slice a n c) (.slice none n' c')).run Try.prog w = .ok (.bool a.isNone) w := fun w a n c n' c' => Lib.run_eql_slice_nil w _ _ a n c n' c' Try.underlying22
  go_enter Try.func9, Try.ntmps9
  go_wp2_with (at_make; refine wpList_make_full _ rfl _ _ 22 rfl w.heap.size 5 i0 (.int .u8 0) 1 Try.underlying22 hi hz0 hz1 _ _ _ _ 0 rfl rfl rfl rfl ?b2 ?b3 (Nat.le_refl _) ?_)
  case b2 => omega
  case b3 => unfold maxLen; omega
  intro w0 hown0 hgrow0
  have hb0 : Below w.heap.size w w0 := (Below.refl _ _).grown hgrow0 (Nat.le_refl _) (fun k h => by cases h)
  clear hgrow0 q22 hown0
  go_wp2
  go_loop [4] (fun i => i = .int .i64 0) (fun _ => 0)
  case atStart => rfl
  case round =>
    subst hrel
    go_wp2
    go_ret
    exact ⟨⟨rfl, fun j c h => by simp at h⟩, hb0⟩

set_option maxHeartbeats 400000 in
theorem clone_nil (w : World) : Calls Try.prog 9 #[.slice none 0 0] w fun e w' => e = .returned (.slice none 0 0) ∧ w = w' := by
  have q22 : ∀ (w : World) (a : Option Addr) (n c n' c' : Nat), (binOp .eql 22 (.slice a n c) (.slice none n' c')).run Try.prog w = .ok (.bool a.isNone) w := fun w a n c n' c' => Lib.run_eql_slice_nil w _ _ a n c n' c' Try.underlying22
  go_enter Try.func9, Try.ntmps9
  go_wp2
  go_ret
  exact ⟨rfl, rfl⟩

set_option maxHeartbeats 400000 in
theorem parity_nil (w : World) : Calls Try.prog 11 #[.slice none 0 0] w fun e w' => e = .returned (.int .i64 0) ∧ w = w' := by
  go_enter Try.func11, Try.ntmps11
  go_wp2
  go_loop [3, 4, 5] (fun c _ i => c = .int .i64 0 ∧ i = .int .i64 0) (fun _ _ _ => 0)
  case atStart => exact ⟨rfl, rfl⟩
  case round =>
    obtain ⟨rfl, rfl⟩ := hrel
    go_wp2
    go_ret
    exact ⟨rfl, rfl⟩

set_option maxHeartbeats 400000 in
theorem lastIn_nil (w : World) : Calls Try.prog 28 #[.slice none 0 0, .int .u8 10] w fun e w' => e = .returned (.int .i64 (-1)) ∧ w = w' := by
  go_enter Try.func28, Try.ntmps28
  go_wp2
  go_loop [5] (fun i => i = .int .i64 (-1)) (fun _ => 0)
  case atStart => rfl
  case round =>
    subst hrel
    go_wp2
    go_ret
    exact ⟨rfl, rfl⟩

set_option maxHeartbeats 400000 in
theorem last_nil (w : World) : Calls Try.prog 25 #[.slice none 0 0, .int .u8 10] w fun e w' => e = .returned (.int .i64 (-1)) ∧ w = w' := by
  go_enter Try.func25, Try.ntmps25
  go_wp2_with (go_at_call 28; refine (lastIn_nil _).mono ?_; rintro e w1 ⟨rfl, rfl⟩)
  go_ret
  exact ⟨rfl, rfl⟩

theorem idx_nil (w : World) : Calls Try.prog 24 #[.slice none 0 0, .int .u8 34] w fun e w' => e = .returned (.int .i64 (-1)) ∧ w = w' := by
  refine (Try.bytes_IndexByte_nil 34 w).mono ?_
  rintro e w' ⟨rfl, rfl⟩
  exact ⟨rfl, rfl⟩

set_option maxHeartbeats 400000 in
theorem boundary_nil (w : World) : Calls Try.prog 22 #[.slice none 0 0] w fun e w' => e = .returned (.int .i64 0) ∧ w = w' := by
  go_enter Try.func22, Try.ntmps22
  go_wp2
  go_loop [3, 4, 5] (fun c f o => c = .int .i64 0 ∧ f = .int .i64 0 ∧ o = .bool false) (fun _ _ _ => 0)
  case atStart => exact ⟨rfl, rfl, rfl⟩
  case round =>
    obtain ⟨rfl, rfl, rfl⟩ := hrel
    go_wp2_with (first | (go_at_call 24; refine (idx_nil _).mono ?_; rintro e w1 ⟨rfl, rfl⟩) | (go_at_call 25; refine (last_nil _).mono ?_; rintro e w1 ⟨rfl, rfl⟩))
    go_ret
    exact ⟨rfl, rfl⟩

end Go.Proofs.Qxb6601475a

/-
  The walks of bytes.LastIndexByte and boundaryByParity; bytes.IndexByte by the shelf's contract.
-/
import Derived.Test.Qxb6601475aRows
import Derived.Test.Qxb6601475aPlain
import Derived.Test.Qxb6601475aShelf
import Derived.Lib.IndexLaws
import Derived.WalkKit
import Derived.WalkSpells
import Derived.WalkLawsBesides
namespace Go.Proofs.Qxb6601475a
open Go.RowKit

theorem mkHid {p : Prop} (h : p) : Hid p := h
def IsBool (e : Ending) : Prop := ∃ b, e = .returned (.bool b)
theorem isBool (b : Bool) : IsBool (.returned (.bool b)) := ⟨b, rfl⟩

/-- The bytes l lie in block B from its head on. -/
def Lies (w : World) (B : Nat) (l : List UInt8) : Prop := ∀ j c, l[j]? = some c → w.cell? ⟨B, j, none⟩ = some (.int .u8 (c.toNat : Int))

/-- What a search forward from i for c answers. -/
def IsIdx (l : List UInt8) (i : Nat) (c : UInt8) (e : Ending) : Prop :=
  (e = .returned (.int .i64 (-1)) ∧ ∀ j, i ≤ j → l[j]? ≠ some c) ∨ ∃ q : Nat, e = .returned (.int .i64 q) ∧ l[i + q]? = some c ∧ ∀ j, i ≤ j → j < i + q → l[j]? ≠ some c

theorem nums_bytes (l : List UInt8) : Lib.bytesOf (l.map fun b => (b.toNat : Int)) = l := by
  unfold Lib.bytesOf
  rw [List.map_map]
  have : ((fun n : Int => UInt8.ofNat n.toNat) ∘ fun b : UInt8 => (b.toNat : Int)) = id := by
    funext b; simp
  rw [this, List.map_id]

theorem idx_of (l : List UInt8) (i : Nat) (c : UInt8) : IsIdx l i c (.returned (.int .i64 (Lib.indexByte (l.drop i) c))) := by
  by_cases h : Lib.indexByte (l.drop i) c = -1
  · refine .inl ⟨by rw [h], fun j hj => ?_⟩
    have := Lib.indexByte_none h (j - i)
    rwa [List.getElem?_drop, show i + (j - i) = j from by omega] at this
  · have h1 := Lib.indexByte_ge (l.drop i) c
    obtain ⟨q, hq⟩ := Int.eq_ofNat_of_zero_le (show 0 ≤ Lib.indexByte (l.drop i) c by omega)
    obtain ⟨a, b⟩ := Lib.indexByte_some hq
    refine .inr ⟨q, by rw [hq], by rwa [List.getElem?_drop] at a, fun j hj hq => ?_⟩
    have := b (j - i) (by omega)
    rwa [List.getElem?_drop, show i + (j - i) = j from by omega] at this

theorem idx_any (B i n m : Nat) (l : List UInt8) (w : World) (hl : l.length = n) (hi : i ≤ n) (hc : Lies w B l) :
    Calls Try.prog 24 #[.slice (some ⟨B, i, none⟩) (n - i) m, .int .u8 34] w fun e w' => IsIdx l i 34 e ∧ w = w' := by
  refine (Try.bytes_IndexByte_at ⟨B, i, none⟩ (n - i) m ((l.drop i).map fun b => (b.toNat : Int)) 34 w (by simp [hl]) ?_).mono ?_
  · intro j hj
    rw [show (⟨B, i, none⟩ : Addr).add j = ⟨B, i + j, none⟩ from by unfold Addr.add; split <;> simp_all]
    have hlt : i + j < l.length := by omega
    rw [hc (i + j) l[i + j] (List.getElem?_eq_getElem hlt)]
    simp [List.getD, hlt]
  · rintro e w' ⟨rfl, rfl⟩
    rw [nums_bytes]
    exact ⟨idx_of l i 34, rfl⟩

/-- What a search backward in [i, i + m) for c answers. -/
def IsLast (l : List UInt8) (i m : Nat) (c : UInt8) (e : Ending) : Prop :=
  (e = .returned (.int .i64 (-1)) ∧ ∀ j, i ≤ j → j < i + m → l[j]? ≠ some c) ∨ ∃ q : Nat, e = .returned (.int .i64 q) ∧ q < m ∧ l[i + q]? = some c ∧ ∀ j, i + q < j → j < i + m → l[j]? ≠ some c

theorem last_yes {l : List UInt8} {i m p : Nat} (hlt : i + p < l.length) (hp : p < m) (h : l[i + p] = 10) (hno : ∀ j : Nat, (p : Int) < j → j < m → l[i + j]? ≠ some 10) : IsLast l i m 10 (.returned (.int .i64 p)) := by
  refine .inr ⟨p, rfl, hp, by rw [List.getElem?_eq_getElem hlt, h], fun j h1 h2 => ?_⟩
  have := hno (j - i) (by omega) (by omega)
  rwa [show i + (j - i) = j from by omega] at this
theorem last_no {l : List UInt8} {i m : Nat} {z : Int} (hz : ¬ 0 ≤ z) (hno : ∀ j : Nat, z < j → j < m → l[i + j]? ≠ some 10) : IsLast l i m 10 (.returned (.int .i64 (-1))) := by
  refine .inl ⟨rfl, fun j h1 h2 => ?_⟩
  have := hno (j - i) (by omega) (by omega)
  rwa [show i + (j - i) = j from by omega] at this
theorem last_step {l : List UInt8} {i m p : Nat} (hlt : i + p < l.length) (h : l[i + p] ≠ 10) (hno : ∀ j : Nat, (p : Int) < j → j < m → l[i + j]? ≠ some 10) : ∀ j : Nat, (p : Int) - 1 < j → j < m → l[i + j]? ≠ some 10 := by
  intro j h1 h2
  rcases Nat.lt_or_ge p j with h3 | h3
  · exact hno j (by omega) h2
  · obtain rfl : j = p := by omega
    rw [List.getElem?_eq_getElem hlt]
    simpa using h

set_option maxHeartbeats 400000 in
theorem lastIn_any (B i m cap : Nat) (l : List UInt8) (w : World) (hm : m ≤ 1048576) (hl : i + m ≤ l.length) (hc : Lies w B l) :
    Calls Try.prog 28 #[.slice (some ⟨B, i, none⟩) m cap, .int .u8 10] w fun e w' => IsLast l i m 10 e ∧ w = w' := by
  have HC := mkHid hc
  clear hc
  go_enter Try.func28, Try.ntmps28
  go_wp2
  go_loop [5] (fun s => ∃ z : Int, -1 ≤ z ∧ z < m ∧ s = .int .i64 z ∧ Hid (∀ j : Nat, z < j → j < m → l[i + j]? ≠ some 10)) (fun s => (intOf s + 1).toNat)
  case atStart => exact ⟨(m : Int) - 1, by omega, by omega, rfl, mkHid (fun j h1 h2 => by omega)⟩
  case round =>
    obtain ⟨z, hz1, hz2, rfl, hno⟩ := hrel
    by_cases hz : 0 ≤ z
    · obtain ⟨p, rfl⟩ := Int.eq_ofNat_of_zero_le hz
      have hlt : i + p < l.length := by omega
      have hcell := HC.out (i + p) l[i + p] (List.getElem?_eq_getElem hlt)
      by_cases h10 : l[i + p] = 10
      · have t10 : (((l[i + p]'hlt).toNat : Int) == 10) = true := by rw [h10]; decide
        have H10 := mkHid h10
        clear h10
        go_wp2
        go_ret
        exact ⟨last_yes hlt (by omega) H10.out hno.out, rfl⟩
      · have t10 : (((l[i + p]'hlt).toNat : Int) == 10) = false := by
          rw [beq_eq_false_iff_ne]; intro h1; exact h10 (UInt8.toNat_inj.1 (by simpa using (by omega : l[i + p].toNat = 10)))
        have H10 := mkHid h10
        clear h10
        go_wp2
        go_round
        case rel => exact ⟨(p : Int) - 1, by omega, by omega, rfl, mkHid (last_step hlt H10.out hno.out)⟩
        case measure => simp [intOf]
    · go_wp2
      go_ret
      exact ⟨last_no (by omega) hno.out, rfl⟩

set_option maxHeartbeats 400000 in
theorem last_any (B i m cap : Nat) (l : List UInt8) (w : World) (hm : m ≤ 1048576) (hl : i + m ≤ l.length) (hc : Lies w B l) :
    Calls Try.prog 25 #[.slice (some ⟨B, i, none⟩) m cap, .int .u8 10] w fun e w' => IsLast l i m 10 e ∧ w = w' := by
  go_enter Try.func25, Try.ntmps25
  go_wp2_with (go_at_call 28; refine (lastIn_any B i m cap l _ hm hl hc).mono ?_; rintro e w1 ⟨(⟨rfl, h⟩ | ⟨q, rfl, h⟩), rfl⟩)
  · go_ret
    exact ⟨.inl ⟨rfl, h⟩, rfl⟩
  · go_ret
    exact ⟨.inr ⟨q, rfl, h⟩, rfl⟩

end Go.Proofs.Qxb6601475a

/-
  yamlReader.blank and the makers on its road by contracts.
-/
import Derived.Test.Qxb6615103aRows
import Derived.WalkKit
import Derived.WalkSpells
import Derived.Laws.Pointers
import Derived.RowKit3
import Derived.Handy
namespace Go.Proofs.Qxb6615103a.fnBlankOfJoinedIsBlankOfPart
open Go.RowKit

/-- The block of a reader over s. -/
abbrev RB (s : ByteArray) : Obj := .cells #[.pointer none, .string s, .int .i64 0, .int .i64 0, .map none, .int .i64 0, .int .i64 0, .int .i64 0] 31

set_option maxHeartbeats 400000 in
theorem reader_any (s : ByteArray) (w : World) : Calls Try.prog 7 #[.string s] w fun e w' => e = .returned (.pointer (some ⟨w.heap.size, 0, none⟩)) ∧ w' = w.alloc (RB s) := by
  go_enter Try.func7, Try.ntmps7
  go_wp2
  go_ret
  exact ⟨rfl, rfl⟩

set_option maxHeartbeats 800000 in
theorem blank_end (r : Nat) (s : ByteArray) (w : World) (hc : w.cell? ⟨r, 1, none⟩ = some (.string s)) :
    Calls Try.prog 10 #[.pointer (some ⟨r, 0, none⟩), .int .i64 s.size] w fun e w' => e = .returned (.bool true) ∧ w' = w := by
  go_enter Try.func10, Try.ntmps10
  go_wp2
  go_ret
  exact ⟨rfl, rfl⟩

theorem ret_bool {x y : Bool} (h : x = y) : Ending.returned (.bool x) = .returned (.bool y) := by rw [h]

/-- Is the byte a space, a tab or a line feed? -/
def blkB (c : Int) : Bool := c == 32 || c == 9 || c == 10

set_option maxHeartbeats 800000 in
theorem blank_in (r : Nat) (s : ByteArray) (k : Nat) (w : World) (hk : k < s.size) (hc : w.cell? ⟨r, 1, none⟩ = some (.string s)) :
    Calls Try.prog 10 #[.pointer (some ⟨r, 0, none⟩), .int .i64 k] w fun e w' => e = .returned (.bool (blkB s[k].toNat)) ∧ w' = w := by
  have hke : ((k : Int) == (s.size : Int)) = false := by simp; omega
  go_enter Try.func10, Try.ntmps10
  go_wp2
  all_goals
    go_ret
    refine ⟨ret_bool ?_, rfl⟩
    simp [blkB, *]

/-- Blank at k: the end, or a blank byte. -/
def blk (s : ByteArray) (k : Nat) : Bool := if h : k < s.size then blkB s[k].toNat else true

set_option maxHeartbeats 800000 in
theorem zzblank_any (r : Nat) (s : ByteArray) (k : Nat) (w : World) (hk : k ≤ s.size) (hc : w.cell? ⟨r, 1, none⟩ = some (.string s)) :
    Calls Try.prog 8 #[.pointer (some ⟨r, 0, none⟩), .int .i64 k] w fun e w' => e = .returned (.bool (blk s k)) ∧ w' = w := by
  unfold blk
  by_cases h : k < s.size
  · rw [dif_pos h]
    go_enter Try.func8, Try.ntmps8
    go_wp2_with (go_at_call 10; refine (blank_in r s k _ h hc).mono ?_; rintro e w' ⟨rfl, rfl⟩)
    go_ret
    exact ⟨rfl, rfl⟩
  · rw [dif_neg h]
    have e : k = s.size := by omega
    subst e
    go_enter Try.func8, Try.ntmps8
    go_wp2_with (go_at_call 10; refine (blank_end r s _ hc).mono ?_; rintro e w' ⟨rfl, rfl⟩)
    go_ret
    exact ⟨rfl, rfl⟩

theorem zzblank_zero (r : Nat) (s : ByteArray) (w : World) (hc : w.cell? ⟨r, 1, none⟩ = some (.string s)) :
    Calls Try.prog 8 #[.pointer (some ⟨r, 0, none⟩), .int .i64 0] w fun e w' => e = .returned (.bool (blk s 0)) ∧ w' = w :=
  zzblank_any r s 0 w (Nat.zero_le _) hc

/-! ### the bound's own test -/
set_option maxHeartbeats 800000 in
theorem bytes_fit (a b : ByteArray) (i : Int) (w : World) (h : (a.size : Int) + b.size ≤ 1048576) :
    Calls Try.prog 6 #[.string a, .string b, .int .i64 i] w fun e w' => e = .returned (.bool true) ∧ w' = w := by
  have h1 : (a.size : Int) ≤ 1048576 := by omega
  have h2 : (b.size : Int) ≤ 1048576 := by omega
  go_enter Try.func6, Try.ntmps6
  go_wp2
  go_ret
  exact ⟨rfl, rfl⟩

set_option maxHeartbeats 800000 in
theorem bytes_more (a b : ByteArray) (i : Int) (w : World) (h : (1048576 : Int) < a.size + b.size) :
    Calls Try.prog 6 #[.string a, .string b, .int .i64 i] w fun e w' => e = .returned (.bool false) ∧ w' = w := by
  by_cases h1 : (1048576 : Int) < a.size
  · go_enter Try.func6, Try.ntmps6
    go_wp2
    go_ret
    exact ⟨rfl, rfl⟩
  by_cases h2 : (1048576 : Int) < b.size
  · go_enter Try.func6, Try.ntmps6
    go_wp2
    go_ret
    exact ⟨rfl, rfl⟩
  · go_enter Try.func6, Try.ntmps6
    go_wp2
    go_ret
    exact ⟨rfl, rfl⟩

/-! ### the plain law -/
theorem blk_end (s : ByteArray) : blk s s.size = true := by unfold blk; rw [dif_neg (Nat.lt_irrefl _)]

theorem blk_left (a b : ByteArray) (k : Nat) (hk : k < a.size) : blk (a ++ b) k = blk a k := by
  unfold blk
  rw [dif_pos hk, dif_pos (by simp; omega), ByteArray.getElem_append_left hk]

theorem blk_right (a b : ByteArray) : blk (a ++ b) a.size = blk b 0 := by
  unfold blk
  by_cases h : 0 < b.size
  · rw [dif_pos h, dif_pos (by simp; omega), ByteArray.getElem_append_right (Nat.le_refl _)]
    simp
  · rw [dif_neg h, dif_neg (by rw [ByteArray.size_append]; omega)]

theorem blk_x (a b : ByteArray) : blk (a ++ { data := #[120] } ++ b) a.size = false := by
  rw [blk_left _ b a.size (by simp [ByteArray.size_append]; decide), blk_right]
  decide
end Go.Proofs.Qxb6615103a.fnBlankOfJoinedIsBlankOfPart

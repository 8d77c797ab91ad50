/-
  THE WALK of FnBlankOfJoinedIsBlankOfPart.
-/
import Derived.Test.Qxb6615103aBlank
import Derived.Laws.Concat
namespace Go.Proofs.Qxb6615103a.fnBlankOfJoinedIsBlankOfPart
open Go.RowKit

abbrev xS : ByteArray := { data := #[120] }

theorem zzblank_end (r : Nat) (s : ByteArray) (w : World) (hc : w.cell? ⟨r, 1, none⟩ = some (.string s)) :
    Calls Try.prog 8 #[.pointer (some ⟨r, 0, none⟩), .int .i64 s.size] w fun e w' => e = .returned (.bool true) ∧ w' = w := by
  have h := zzblank_any r s s.size w (Nat.le_refl _) hc
  rw [blk_end] at h
  exact h

theorem zzblank_x (r : Nat) (a b : ByteArray) (w : World) (hc : w.cell? ⟨r, 1, none⟩ = some (.string (a ++ xS ++ b))) :
    Calls Try.prog 8 #[.pointer (some ⟨r, 0, none⟩), .int .i64 a.size] w fun e w' => e = .returned (.bool false) ∧ w' = w := by
  have h := zzblank_any r (a ++ xS ++ b) a.size w (by rw [ByteArray.size_append, ByteArray.size_append]; omega) hc
  rw [blk_x] at h
  exact h

set_option maxHeartbeats 1600000 in
theorem walk_in (a b : ByteArray) (k : Nat) (w : World) (hs : (a.size : Int) + b.size ≤ 1048576) (hk : (k : Int) ≤ a.size) :
    Calls Try.prog 4 #[.string a, .string b, .int .i64 k] w fun e w' => e = .returned (.bool true) ∧ Grown w w' := by
  have h1 : (a.size : Int) ≤ 1048576 := by omega
  have h2 : (b.size : Int) ≤ 1048576 - a.size := by omega
  have hx : xS.size = 1 := by decide
  have hxs : (a ++ xS).size = a.size + 1 := by rw [ByteArray.size_append, hx]
  have hadd1 : ∀ w, (Op.stringOp .add a xS).run Try.prog w = .ok (.string (a ++ xS)) w := fun w => run_string_add_sum w a xS (by omega)
  have hadd2 : ∀ w, (Op.stringOp .add (a ++ xS) b).run Try.prog w = .ok (.string (a ++ xS ++ b)) w := fun w => run_string_add_sum w (a ++ xS) b (by omega)
  have hadd3 : ∀ w, (Op.stringOp .add a b).run Try.prog w = .ok (.string (a ++ b)) w := fun w => run_string_add_sum w a b (by omega)
  clear hx hxs
  have hkl : k ≤ (a ++ b).size := by rw [ByteArray.size_append]; omega
  go_enter Try.func4, Try.ntmps4
  go_wp2_with fail
  refine (bytes_fit a b k w hs).mono ?_
  rintro e w1 ⟨rfl, rfl⟩
  go_wp2_with fail
  refine (reader_any a _).mono ?_
  rintro e w2 ⟨rfl, rfl⟩
  go_wp2_with fail
  refine (reader_any b _).mono ?_
  rintro e w2 ⟨rfl, rfl⟩
  go_wp2_with fail
  refine (zzblank_end w1.heap.size a _ (by simp [go_sem])).mono ?_
  rintro e w2 ⟨rfl, rfl⟩
  go_wp2_with fail
  refine (zzblank_end (w1.heap.size + 1) b _ (by simp [go_sem])).mono ?_
  rintro e w2 ⟨rfl, rfl⟩
  go_wp2_with fail
  refine (reader_any (a ++ xS ++ b) _).mono ?_
  rintro e w2 ⟨rfl, rfl⟩
  go_wp2_with fail
  refine (zzblank_x (w1.heap.size + 1 + 1) a b _ (by simp [go_sem])).mono ?_
  rintro e w2 ⟨rfl, rfl⟩
  go_wp2_with fail
  refine (reader_any (a ++ b) _).mono ?_
  rintro e w2 ⟨rfl, rfl⟩
  go_wp2_with fail
  refine (zzblank_any (w1.heap.size + 1 + 1 + 1) (a ++ b) k _ hkl (by simp [go_sem])).mono ?_
  rintro e w2 ⟨rfl, rfl⟩
  clear hadd1 hadd2 hadd3
  by_cases hlt : k < a.size
  · rw [blk_left a b k hlt]
    go_wp2_with fail
    refine (zzblank_any w1.heap.size a k _ (by omega) (by simp [go_sem])).mono ?_
    rintro e w2 ⟨rfl, rfl⟩
    go_wp2_with fail
    go_ret
    exact ⟨ret_bool (by simp), by go_grown⟩
  · have hke : k = a.size := by omega
    subst hke
    rw [blk_right a b]
    go_wp2_with fail
    refine (zzblank_zero (w1.heap.size + 1) b _ (by simp [go_sem])).mono ?_
    rintro e w2 ⟨rfl, rfl⟩
    go_wp2_with fail
    go_ret
    exact ⟨ret_bool (by simp), by go_grown⟩

set_option maxHeartbeats 1600000 in
theorem walk_out (a b : ByteArray) (i : Int) (w : World) (hs : (a.size : Int) + b.size ≤ 1048576) (hi : i < 0 ∨ (a.size : Int) < i) :
    Calls Try.prog 4 #[.string a, .string b, .int .i64 i] w fun e w' => e = .returned (.bool true) ∧ Grown w w' := by
  have h1 : (a.size : Int) ≤ 1048576 := by omega
  have h2 : (b.size : Int) ≤ 1048576 - a.size := by omega
  rcases hi with hi | hi
  · go_enter Try.func4, Try.ntmps4
    go_wp2_with fail
    refine (bytes_fit a b i w hs).mono ?_
    rintro e w1 ⟨rfl, rfl⟩
    go_wp2_with fail
    go_ret
    exact ⟨rfl, Grown.refl _⟩
  · go_enter Try.func4, Try.ntmps4
    go_wp2_with fail
    refine (bytes_fit a b i w hs).mono ?_
    rintro e w1 ⟨rfl, rfl⟩
    go_wp2_with fail
    go_ret
    exact ⟨rfl, Grown.refl _⟩

set_option maxHeartbeats 1600000 in
theorem walk_large (a b : ByteArray) (i : Int) (w : World) (hs : (1048576 : Int) < a.size + b.size) :
    Calls Try.prog 4 #[.string a, .string b, .int .i64 i] w fun e w' => e = .returned (.bool true) ∧ Grown w w' := by
  go_enter Try.func4, Try.ntmps4
  go_wp2_with fail
  refine (bytes_more a b i w hs).mono ?_
  rintro e w1 ⟨rfl, rfl⟩
  go_wp2_with fail
  go_ret
  exact ⟨rfl, Grown.refl _⟩
end Go.Proofs.Qxb6615103a.fnBlankOfJoinedIsBlankOfPart

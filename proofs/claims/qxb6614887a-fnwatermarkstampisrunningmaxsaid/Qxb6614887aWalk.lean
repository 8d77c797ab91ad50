/-
  THE WALK of FnWatermarkStampIsRunningMax.
-/
import Derived.Test.Qxb6614887aAdvance
import Derived.Handy
namespace Go.Proofs.Qxb6614887a.fnWatermarkStampIsRunningMax
open Go.RowKit

set_option maxHeartbeats 1600000 in
theorem walk_row (a0 : Int) (b off len cap : Nat) (zs : List Int) (w : World) (hl : (len : Int) ≤ 65536)
    (hc : ∀ k, k < len → w.cell? ⟨b, off + k, none⟩ = some (.int .u64 (zs.getD k 0))) :
    Calls Try.prog 6 #[.int .u64 a0, .slice (some ⟨b, off, none⟩) len cap] w fun e w' => e = .returned (.bool true) ∧ Below w.heap.size w w' := by
  have hcH : Hid (∀ k, k < len → w.cell? ⟨b, off + k, none⟩ = some (.int .u64 (zs.getD k 0))) := hc
  clear hc
  go_enter Try.func6, Try.ntmps6
  go_wp2_with fail
  refine (bytes_fit a0 _ len cap w (by omega)).mono ?_
  rintro e w1 ⟨rfl, rfl⟩
  go_wp2_with fail
  refine (new_any a0 _).mono ?_
  rintro e w2 ⟨rfl, hw2⟩
  have hm2 : MarkAt w1.heap.size a0 w2 := by rw [hw2]; exact MarkAt.made a0 w1
  have hb2 : Below w1.heap.size w1 w2 := by rw [hw2]; exact (Below.refl _ _).alloc (Nat.le_refl _) _
  clear hw2
  go_wp2_with fail
  go_loopw [6, 7] (fun m i wr => ∃ (k : Nat) (x : Int), k ≤ len ∧ i = .int .i64 k ∧ m = .int .u64 x ∧ MarkAt w1.heap.size x wr ∧ Below w1.heap.size w1 wr) (fun _ i _ => len - (intOf i).toNat)
  case atStart => exact ⟨0, a0, Nat.zero_le _, rfl, rfl, hm2, hb2⟩
  case round =>
    obtain ⟨k, x, hk, rfl, rfl, hm, hbw⟩ := hrel
    by_cases hlt : k < len
    · have hck := hcH.out k hlt
      have hblt : b < w1.heap.size := World.block_lt_of_cell? _ _ hck
      generalize zs.getD k 0 = z at hck
      have hcr : wr.cell? ⟨b, off + k, none⟩ = some (.int .u64 z) := (hbw.cell (p := ⟨b, off + k, none⟩) hblt).trans hck
      by_cases hxz : x < z
      · go_wp2_with fail
        refine (advance_any w1.heap.size x z _ hm).mono ?_
        rintro e w3 ⟨rfl, hm3, hb3⟩
        rw [mx, if_pos hxz] at hm3
        have hcr3 : w3.cell? ⟨b, off + k, none⟩ = some (.int .u64 z) := (hb3.cell (p := ⟨b, off + k, none⟩) hblt).trans hcr
        go_wp2_with fail
        refine (stamp_any w1.heap.size z _ hm3.c0).mono ?_
        rintro e w4 ⟨rfl, rfl⟩
        go_wp2_with fail
        go_roundw
        case rel => exact ⟨k + 1, z, by omega, by go_num, rfl, hm3, hbw.trans hb3⟩
        case measure => simp [intOf]; omega
      · go_wp2_with fail
        refine (advance_any w1.heap.size x z _ hm).mono ?_
        rintro e w3 ⟨rfl, hm3, hb3⟩
        rw [mx, if_neg (by omega)] at hm3
        have hcr3 : w3.cell? ⟨b, off + k, none⟩ = some (.int .u64 z) := (hb3.cell (p := ⟨b, off + k, none⟩) hblt).trans hcr
        go_wp2_with fail
        refine (stamp_any w1.heap.size x _ hm3.c0).mono ?_
        rintro e w4 ⟨rfl, rfl⟩
        go_wp2_with fail
        go_roundw
        case rel => exact ⟨k + 1, x, by omega, by go_num, rfl, hm3, hbw.trans hb3⟩
        case measure => simp [intOf]; omega
    · go_wp2_with fail
      refine (stamp_any w1.heap.size x _ hm.c0).mono ?_
      rintro e w4 ⟨rfl, rfl⟩
      go_wp2_with fail
      go_ret
      exact ⟨rfl, hbw⟩

set_option maxHeartbeats 1600000 in
theorem walk_none (a0 : Int) (a1 : Option Addr) (cap : Nat) (w : World) :
    Calls Try.prog 6 #[.int .u64 a0, .slice a1 0 cap] w fun e w' => e = .returned (.bool true) ∧ Below w.heap.size w w' := by
  go_enter Try.func6, Try.ntmps6
  go_wp2_with fail
  refine (bytes_fit a0 _ 0 cap w (by omega)).mono ?_
  rintro e w1 ⟨rfl, rfl⟩
  go_wp2_with fail
  refine (new_any a0 _).mono ?_
  rintro e w2 ⟨rfl, rfl⟩
  go_wp2_with fail
  refine wp_loop_rounds 1 ?_
  rw [rounds_succ]
  go_wp2_with fail
  refine (stamp_any w1.heap.size a0 _ (by simp [go_sem])).mono ?_
  rintro e w4 ⟨rfl, rfl⟩
  go_wp2_with fail
  go_ret
  exact ⟨rfl, (Below.refl _ _).alloc (Nat.le_refl _) _⟩

set_option maxHeartbeats 1600000 in
theorem walk_long (a0 : Int) (a1 : Option Addr) (len cap : Nat) (w : World) (hl : (65536 : Int) < len) :
    Calls Try.prog 6 #[.int .u64 a0, .slice a1 len cap] w fun e w' => e = .returned (.bool true) ∧ Below w.heap.size w w' := by
  by_cases h1 : (1048576 : Int) < len
  · go_enter Try.func6, Try.ntmps6
    go_wp2_with fail
    refine (bytes_more a0 _ len cap w h1).mono ?_
    rintro e w1 ⟨rfl, rfl⟩
    go_wp2_with fail
    go_ret
    exact ⟨rfl, Below.refl _ _⟩
  · go_enter Try.func6, Try.ntmps6
    go_wp2_with fail
    refine (bytes_fit a0 _ len cap w (by omega)).mono ?_
    rintro e w1 ⟨rfl, rfl⟩
    go_wp2_with fail
    go_ret
    exact ⟨rfl, Below.refl _ _⟩
end Go.Proofs.Qxb6614887a.fnWatermarkStampIsRunningMax

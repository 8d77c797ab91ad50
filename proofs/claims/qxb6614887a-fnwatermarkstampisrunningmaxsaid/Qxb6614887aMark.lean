/-
  sync/atomic's Uint64 and the watermark's NewWatermark and Stamp by contracts.
-/
import Derived.Test.Qxb6614887aRows
import Derived.WalkKit
import Derived.WalkSpells
import Derived.Laws.Pointers
import Derived.Laws.LoneSync
import Derived.RowKit3
namespace Go.Proofs.Qxb6614887a
open Go.RowKit

theorem run_load (a : Addr) (x : Int) (w : World) (hc : w.cell? a = some (.int .u64 x)) : (callFunc 19 #[.pointer (some a)]).run Try.prog w = .ok (.value (.int .u64 x)) w :=
  run_call_load Try.func19 (by kernel_rfl) (by kernel_rfl) (by kernel_rfl) .u64 (by kernel_rfl) hc

theorem run_store (a : Addr) (y : Int) (u : Value) (w : World) (hc : w.cell? a = some u) (hz : w.frozen? a = false) : (callFunc 18 #[.pointer (some a), .int .u64 y]).run Try.prog w = .ok (.value (.tuple #[])) (w.setCell a (.int .u64 y)) :=
  run_call_store Try.func18 (by kernel_rfl) (by kernel_rfl) (by kernel_rfl) (by kernel_rfl) hc hz

set_option maxHeartbeats 400000 in
theorem aload_any (b : Nat) (x : Int) (w : World) (hc : w.cell? ⟨b, 0, none⟩ = some (.int .u64 x)) :
    Calls Try.prog 14 #[.pointer (some ⟨b, 0, none⟩)] w fun e w' => e = .returned (.int .u64 x) ∧ w' = w := by
  have hl := run_load ⟨b, 0, none⟩ x w hc
  go_enter Try.func14, Try.ntmps14
  go_wp2
  go_ret
  exact ⟨rfl, rfl⟩

set_option maxHeartbeats 400000 in
theorem astore_any (b : Nat) (x y : Int) (w : World) (hc : w.cell? ⟨b, 0, none⟩ = some (.int .u64 x)) (hz : w.frozen? ⟨b, 0, none⟩ = false) :
    Calls Try.prog 13 #[.pointer (some ⟨b, 0, none⟩), .int .u64 y] w fun e w' => e = .returned (.tuple #[]) ∧ w' = w.setCell ⟨b, 0, none⟩ (.int .u64 y) := by
  have hl := run_store ⟨b, 0, none⟩ y _ w hc hz
  go_enter Try.func13, Try.ntmps13
  go_wp2
  go_end0
  exact ⟨rfl, rfl⟩

set_option maxHeartbeats 400000 in
/-- (*Watermark).Stamp. -/
theorem stamp_any (b : Nat) (x : Int) (w : World) (hc : w.cell? ⟨b, 0, none⟩ = some (.int .u64 x)) :
    Calls Try.prog 10 #[.pointer (some ⟨b, 0, none⟩)] w fun e w' => e = .returned (.int .u64 x) ∧ w' = w := by
  go_enter Try.func10, Try.ntmps10
  go_wp2_with (go_at_call 14; refine (aload_any b x _ hc).mono ?_; rintro e w' ⟨rfl, rfl⟩)
  go_ret
  exact ⟨rfl, rfl⟩

/-- The block of a watermark at stamp x: nobody waits, the lock is free. -/
abbrev WB (x : Int) : Obj := .cells #[.int .u64 x, .int .i32 0, .int .u32 0, .slice none 0 0] 50

set_option maxHeartbeats 400000 in
/-- NewWatermark. -/
theorem new_any (x : Int) (w : World) :
    Calls Try.prog 9 #[.int .u64 x] w fun e w' => e = .returned (.pointer (some ⟨w.heap.size, 0, none⟩)) ∧ w' = w.alloc (WB x) := by
  go_enter Try.func9, Try.ntmps9
  go_wp2_with (go_at_call 13; refine (astore_any w.heap.size 0 x _ (by simp [go_sem]) (by simp [go_sem])).mono ?_; rintro e w' ⟨rfl, rfl⟩)
  go_ret
  exact ⟨rfl, rfl⟩
end Go.Proofs.Qxb6614887a

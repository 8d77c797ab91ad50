/-
  (*Watermark).Advance by a contract, where nobody waits and the lock is free; and the bound's own test.
-/
import Derived.Test.Qxb6614887aMark
import Derived.Test.Qxb6614887aLocks
import Derived.Conc.MuLone
import Derived.LoopN
namespace Go.Proofs.Qxb6614887a
open Go.RowKit Go.MuLone

/-- At block b lies a watermark at stamp x; its lock is free; nobody waits. -/
structure MarkAt (b : Nat) (x : Int) (w : World) : Prop where
  c0 : w.cell? ⟨b, 0, none⟩ = some (.int .u64 x)
  c1 : w.cell? ⟨b, 1, none⟩ = some (.int .i32 0)
  c3 : w.cell? ⟨b, 3, none⟩ = some (.slice none 0 0)
  f0 : w.frozen? ⟨b, 0, none⟩ = false
  f1 : w.frozen? ⟨b, 1, none⟩ = false

theorem MarkAt.made (x : Int) (w : World) : MarkAt w.heap.size x (w.alloc (WB x)) := by
  constructor <;> simp [go_sem]

set_option maxHeartbeats 800000 in
theorem advance_low (b : Nat) (x s : Int) (w : World) (h : MarkAt b x w) (hs : s ≤ x) :
    Calls Try.prog 12 #[.pointer (some ⟨b, 0, none⟩), .int .u64 s] w fun e w' => e = .returned (.tuple #[]) ∧ w' = w := by
  obtain ⟨c0, c1, c3, f0, f1⟩ := h
  go_enter_defers Try.func12, Try.ntmps12
  go_wp2_with fail
  refine (stamp_any b x _ c0).mono ?_
  rintro e w' ⟨rfl, rfl⟩
  go_wp2_with fail
  exact ⟨_, results_none rfl _ _ _, rfl, rfl⟩

set_option maxHeartbeats 800000 in
theorem advance_high (b : Nat) (x s : Int) (w : World) (h : MarkAt b x w) (hs : x < s) :
    Calls Try.prog 12 #[.pointer (some ⟨b, 0, none⟩), .int .u64 s] w fun e w' => e = .returned (.tuple #[]) ∧ w' = ((w.setCell ⟨b, 1, none⟩ (.int .i32 1)).setCell ⟨b, 0, none⟩ (.int .u64 s)).setCell ⟨b, 1, none⟩ (.int .i32 0) := by
  obtain ⟨c0, c1, c3, f0, f1⟩ := h
  have d0 : (w.setCell ⟨b, 1, none⟩ (.int .i32 1)).cell? ⟨b, 0, none⟩ = some (.int .u64 x) := (World.cell?_setCell_other _ ⟨b, 1, none⟩ ⟨b, 0, none⟩ _ (by simp)).trans c0
  go_enter_defers Try.func12, Try.ntmps12
  go_wp2_with fail
  refine (stamp_any b x _ c0).mono ?_
  rintro e w' ⟨rfl, rfl⟩
  go_wp2_with fail
  refine (lock_free muLib ⟨b, 1, none⟩ _ c1 f1).mono ?_
  rintro e w1 ⟨rfl, rfl⟩
  go_wp2_with fail
  refine (stamp_any b x _ d0).mono ?_
  rintro e w1 ⟨rfl, rfl⟩
  go_wp2_with fail
  refine (astore_any b x s _ d0 (by simp [f0])).mono ?_
  rintro e w1 ⟨rfl, rfl⟩
  go_wp2_with fail
  refine wp_loop_rounds 1 ?_
  rw [rounds_succ]
  go_wp2_with fail
  refine leaves_cons (f := 16) (args := #[.pointer (some ⟨b, 1, none⟩)]) (by simp) (by simp [go_sem]) ?_
  refine (unlock_deferred muLib ⟨b, 1, none⟩ .returning _ ?_ ?_).mono ?_
  · exact (World.cell?_setCell_other _ ⟨b, 0, none⟩ ⟨b, 1, none⟩ _ (by simp)).trans (World.cell?_setCell_same _ ⟨b, 1, none⟩ (.int .i32 1) c1)
  · simp [f1]
  rintro e u' w'' ⟨rfl, rfl, rfl⟩
  exact ⟨_, results_none rfl _ _ _, rfl, rfl⟩

/-- The greater of two stamps. -/
def mx (x s : Int) : Int := if x < s then s else x

/-- Advance: the watermark stands at the greater stamp; its lock is free; nobody waits; below its block nothing turns. -/
theorem advance_any (b : Nat) (x s : Int) (w : World) (h : MarkAt b x w) :
    Calls Try.prog 12 #[.pointer (some ⟨b, 0, none⟩), .int .u64 s] w fun e w' => e = .returned (.tuple #[]) ∧ MarkAt b (mx x s) w' ∧ Below b w w' := by
  by_cases hs : x < s
  · refine (advance_high b x s w h hs).mono ?_
    rintro e w' ⟨rfl, rfl⟩
    obtain ⟨c0, c1, c3, f0, f1⟩ := h
    have d0 : (w.setCell ⟨b, 1, none⟩ (.int .i32 1)).cell? ⟨b, 0, none⟩ = some (.int .u64 x) := (World.cell?_setCell_other _ ⟨b, 1, none⟩ ⟨b, 0, none⟩ _ (by simp)).trans c0
    have e1 : ((w.setCell ⟨b, 1, none⟩ (.int .i32 1)).setCell ⟨b, 0, none⟩ (.int .u64 s)).cell? ⟨b, 1, none⟩ = some (.int .i32 1) := (World.cell?_setCell_other _ ⟨b, 0, none⟩ ⟨b, 1, none⟩ _ (by simp)).trans (World.cell?_setCell_same _ ⟨b, 1, none⟩ (.int .i32 1) c1)
    refine ⟨rfl, ⟨?_, ?_, ?_, ?_, ?_⟩, ?_⟩
    · rw [World.cell?_setCell_other _ _ _ _ (by simp), World.cell?_setCell_same _ _ _ d0, mx, if_pos hs]
    · exact World.cell?_setCell_same _ _ _ e1
    · rw [World.cell?_setCell_other _ _ _ _ (by simp), World.cell?_setCell_other _ _ _ _ (by simp), World.cell?_setCell_other _ _ _ _ (by simp)]; exact c3
    · simp [f0]
    · simp [f1]
    · exact (((Below.refl b w).setCell (p := ⟨b, 1, none⟩) (Nat.le_refl b) (.int .i32 1)).setCell (p := ⟨b, 0, none⟩) (Nat.le_refl b) (.int .u64 s)).setCell (p := ⟨b, 1, none⟩) (Nat.le_refl b) (.int .i32 0)
  · refine (advance_low b x s w h (by omega)).mono ?_
    rintro e w' ⟨rfl, rfl⟩
    refine ⟨rfl, ?_, Below.refl _ _⟩
    rw [mx, if_neg hs]
    exact h

set_option maxHeartbeats 400000 in
/-- The bound's own test: at most 2^20 stamps. -/
theorem bytes_fit (a0 : Int) (a1 : Option Addr) (len cap : Nat) (w : World) (hl : (len : Int) ≤ 1048576) :
    Calls Try.prog 11 #[.int .u64 a0, .slice a1 len cap] w fun e w' => e = .returned (.bool true) ∧ w' = w := by
  go_enter Try.func11, Try.ntmps11
  go_wp2
  go_ret
  exact ⟨rfl, rfl⟩

set_option maxHeartbeats 400000 in
theorem bytes_more (a0 : Int) (a1 : Option Addr) (len cap : Nat) (w : World) (hl : (1048576 : Int) < len) :
    Calls Try.prog 11 #[.int .u64 a0, .slice a1 len cap] w fun e w' => e = .returned (.bool false) ∧ w' = w := by
  go_enter Try.func11, Try.ntmps11
  go_wp2
  go_ret
  exact ⟨rfl, rfl⟩
end Go.Proofs.Qxb6614887a

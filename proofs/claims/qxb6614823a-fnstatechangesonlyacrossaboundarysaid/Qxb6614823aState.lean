/-
  time.Time.Before, service.ZZnewSession, session.state, service.ZZstate, zzStateAt, zzPhase, each by a contract.
-/
import Derived.Test.Qxb6614823aTime
import Derived.Test.Qxb6614823aLocks
import Derived.Conc.MuLone
import Derived.Deep.QuietTactic
import Derived.BigQuiet
import Derived.Deep.RegionHeld3
import Derived.Deep.RegionWith
namespace Go.Proofs.Qxb6614823a
open Go.RowKit Go.MuLone

/-- An instant, and the block that holds it, by its two words. -/
abbrev TT (n s : Int) : Value := .agg #[.int .u64 n, .int .i64 s, .pointer none]
abbrev TTB (n s : Int) : Obj := .cells #[.int .u64 n, .int .i64 s, .pointer none] 30

set_option maxHeartbeats 800000 in
theorem before_gen (na sa nb sb : Int) (w : World) (a0 : 0 ≤ na) (a1 : na < 1000000000) (b0 : 0 ≤ nb) (b1 : nb < 1000000000) :
    Calls Try.prog 17 #[TT na sa, TT nb sb] w fun e w' => e = .returned (.bool (decide (sa < sb) || (decide (sa = sb) && decide (na < nb)))) ∧ w' = (w.alloc (TTB na sa)).alloc (TTB nb sb) := by
  have ht := and_two_top _ _ a0 a1 b0 b1
  by_cases g1 : sa < sb
  · go_enter Try.func17, Try.ntmps17
    go_wp2_with (first
      | (go_at_call_of 18 (Value.pointer (some ⟨w.heap.size, 0, none⟩)); refine (sec_any w.heap.size na sa _ a0 a1 (by simp [go_sem]) (by simp [go_sem])).mono ?_; rintro e w' ⟨rfl, rfl⟩)
      | (go_at_call 18; refine (sec_any (w.heap.size + 1) nb sb _ b0 b1 (by simp [go_sem]) (by simp [go_sem])).mono ?_; rintro e w' ⟨rfl, rfl⟩))
    go_ret
    exact ⟨by simp [g1], rfl⟩
  by_cases g2 : sa = sb
  · subst g2
    by_cases g3 : na < nb
    all_goals
      go_enter Try.func17, Try.ntmps17
      go_wp2_with (first
        | (go_at_call_of 18 (Value.pointer (some ⟨w.heap.size, 0, none⟩)); refine (sec_any w.heap.size na sa _ a0 a1 (by simp [go_sem]) (by simp [go_sem])).mono ?_; rintro e w' ⟨rfl, rfl⟩)
        | (go_at_call 18; refine (sec_any (w.heap.size + 1) nb sa _ b0 b1 (by simp [go_sem]) (by simp [go_sem])).mono ?_; rintro e w' ⟨rfl, rfl⟩)
        | (go_at_call_of 12 (Value.pointer (some ⟨w.heap.size, 0, none⟩)); refine (nsec_any w.heap.size na _ a0 a1 (by simp [go_sem])).mono ?_; rintro e w' ⟨rfl, rfl⟩)
        | (go_at_call 12; refine (nsec_any (w.heap.size + 1) nb _ b0 b1 (by simp [go_sem])).mono ?_; rintro e w' ⟨rfl, rfl⟩))
      go_ret
      exact ⟨by simp [g3], rfl⟩
  · have g4 : (sa == sb) = false := by simpa using g2
    go_enter Try.func17, Try.ntmps17
    go_wp2_with (first
      | (go_at_call_of 18 (Value.pointer (some ⟨w.heap.size, 0, none⟩)); refine (sec_any w.heap.size na sa _ a0 a1 (by simp [go_sem]) (by simp [go_sem])).mono ?_; rintro e w' ⟨rfl, rfl⟩)
      | (go_at_call 18; refine (sec_any (w.heap.size + 1) nb sb _ b0 b1 (by simp [go_sem]) (by simp [go_sem])).mono ?_; rintro e w' ⟨rfl, rfl⟩))
    go_ret
    exact ⟨by simp [g2], rfl⟩

theorem before_any (a b : Int) (w : World) :
    Calls Try.prog 17 #[T a, T b] w fun e w' => e = .returned (.bool (decide (a < b))) ∧ w' = (w.alloc (TB a)).alloc (TB b) := by
  have hk : decide (a < b) = (decide (a / 1000000000 < b / 1000000000) || (decide (a / 1000000000 = b / 1000000000) && decide (a % 1000000000 < b % 1000000000))) := by
    rw [Bool.eq_iff_iff]; simp; omega
  rw [hk]
  exact before_gen _ _ _ _ w (by omega) (by omega) (by omega) (by omega)

/-- At block b lies a session with cut-off c, opening o, whose lock is free and whose field opened holds pv. -/
structure SessAt (b : Nat) (c o : Int) (pv : Option Addr) (w : World) : Prop where
  c0 : w.cell? ⟨b, 19, none⟩ = some (.int .u64 (c % 1000000000))
  c1 : w.cell? ⟨b, 20, none⟩ = some (.int .i64 (c / 1000000000))
  c2 : w.cell? ⟨b, 21, none⟩ = some (.pointer none)
  o0 : w.cell? ⟨b, 22, none⟩ = some (.int .u64 (o % 1000000000))
  o1 : w.cell? ⟨b, 23, none⟩ = some (.int .i64 (o / 1000000000))
  o2 : w.cell? ⟨b, 24, none⟩ = some (.pointer none)
  mu : w.cell? ⟨b, 26, none⟩ = some (.int .i32 0)
  op : w.cell? ⟨b, 28, none⟩ = some (.pointer pv)
  fz : w.frozen? ⟨b, 26, none⟩ = false

theorem SessAt.lt {b : Nat} {c o : Int} {pv : Option Addr} {w : World} (h : SessAt b c o pv w) : b < w.heap.size :=
  World.block_lt_of_cell? _ _ h.mu

theorem SessAt.alloc {b : Nat} {c o : Int} {pv : Option Addr} {w : World} (h : SessAt b c o pv w) (cs : Array Value) (t : TypeId) : SessAt b c o pv (w.alloc (.cells cs t)) := by
  have hl := h.lt
  constructor
  · rw [World.cell?_alloc_past _ _ _ hl]; exact h.c0
  · rw [World.cell?_alloc_past _ _ _ hl]; exact h.c1
  · rw [World.cell?_alloc_past _ _ _ hl]; exact h.c2
  · rw [World.cell?_alloc_past _ _ _ hl]; exact h.o0
  · rw [World.cell?_alloc_past _ _ _ hl]; exact h.o1
  · rw [World.cell?_alloc_past _ _ _ hl]; exact h.o2
  · rw [World.cell?_alloc_past _ _ _ hl]; exact h.mu
  · rw [World.cell?_alloc_past _ _ _ hl]; exact h.op
  · rw [frozen?_alloc_cells]; exact h.fz

set_option maxHeartbeats 800000 in
theorem newSession_shut (c o : Int) (W w : World) (hg : Grown W w) :
    Calls Try.prog 6 #[T c, T o, .bool false] w fun e w' => ∃ b, e = .returned (.pointer (some ⟨b, 0, none⟩)) ∧ W.heap.size ≤ b ∧ SessAt b c o none w' ∧ Grown W w' := by
  have hle := hg.2.2
  go_enter Try.func6, Try.ntmps6
  go_wp2
  go_ret
  refine ⟨_, rfl, by omega, ?_, ?_⟩
  · constructor <;> simp [go_sem]
  · repeat (first | exact hg | apply Grown.alloc)

set_option maxHeartbeats 800000 in
theorem newSession_open (c o : Int) (W w : World) (hg : Grown W w) :
    Calls Try.prog 6 #[T c, T o, .bool true] w fun e w' => ∃ b q, e = .returned (.pointer (some ⟨b, 0, none⟩)) ∧ W.heap.size ≤ b ∧ SessAt b c o (some q) w' ∧ Grown W w' := by
  have hle := hg.2.2
  go_enter Try.func6, Try.ntmps6
  go_wp2
  go_ret
  refine ⟨_, ⟨w.heap.size + 1 + 1 + 1, 0, none⟩, rfl, by omega, ?_, ?_⟩
  · constructor <;> simp [go_sem]
  · repeat (first | exact hg | apply Grown.alloc)
end Go.Proofs.Qxb6614823a

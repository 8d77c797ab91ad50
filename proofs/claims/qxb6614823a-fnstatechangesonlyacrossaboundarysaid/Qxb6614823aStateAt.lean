/-
  zzStateAt and zzPhase by contracts, and the plain law.
-/
import Derived.Test.Qxb6614823aSession
namespace Go.Proofs.Qxb6614823a
open Go.RowKit Go.MuLone

def In64 (x : Int) : Prop := -9223372036854775808 ≤ x ∧ x ≤ 9223372036854775807

set_option maxHeartbeats 800000 in
/-- zzStateAt of a session that is not opened. -/
theorem stateAt_shut (c o n : Int) (hc : In64 c) (ho : In64 o) (hn : In64 n) (W w : World) (hg : Grown W w) :
    Calls Try.prog 4 #[.int .i64 c, .int .i64 o, .int .i64 n, .bool false] w fun e w' => e = .returned (.string (stShut c o n)) ∧ Grown W w' := by
  go_enter Try.func4, Try.ntmps4
  go_wp2_with (first
    | (go_at_call_of 7 (Value.int .i64 c); refine (instant_any c _ hc.1 hc.2).mono ?_; rintro e w' ⟨rfl, rfl⟩)
    | (go_at_call_of 7 (Value.int .i64 o); refine (instant_any o _ ho.1 ho.2).mono ?_; rintro e w' ⟨rfl, rfl⟩)
    | (go_at_call_of 7 (Value.int .i64 n); refine (instant_any n _ hn.1 hn.2).mono ?_; rintro e w' ⟨rfl, rfl⟩)
    | (go_at_call 6; refine (newSession_shut c o W _ (by repeat (first | exact hg | apply Grown.alloc))).mono ?_; rintro e w1 ⟨b, rfl, hb, hs1, hg1⟩)
    | (go_at_call 8; refine (zzstate_shut b c o n W _ (by repeat (first | exact hg1 | apply Grown.alloc)) hb (by repeat (first | exact hs1 | apply SessAt.alloc))).mono ?_; rintro e w2 ⟨rfl, hg2⟩))
  go_ret
  exact ⟨rfl, hg2⟩

set_option maxHeartbeats 800000 in
/-- zzStateAt of an opened session. -/
theorem stateAt_open (c o n : Int) (hc : In64 c) (ho : In64 o) (hn : In64 n) (W w : World) (hg : Grown W w) :
    Calls Try.prog 4 #[.int .i64 c, .int .i64 o, .int .i64 n, .bool true] w fun e w' => e = .returned (.string sOpened) ∧ Grown W w' := by
  go_enter Try.func4, Try.ntmps4
  go_wp2_with (first
    | (go_at_call_of 7 (Value.int .i64 c); refine (instant_any c _ hc.1 hc.2).mono ?_; rintro e w' ⟨rfl, rfl⟩)
    | (go_at_call_of 7 (Value.int .i64 o); refine (instant_any o _ ho.1 ho.2).mono ?_; rintro e w' ⟨rfl, rfl⟩)
    | (go_at_call_of 7 (Value.int .i64 n); refine (instant_any n _ hn.1 hn.2).mono ?_; rintro e w' ⟨rfl, rfl⟩)
    | (go_at_call 6; refine (newSession_open c o W _ (by repeat (first | exact hg | apply Grown.alloc))).mono ?_; rintro e w1 ⟨b, q, rfl, hb, hs1, hg1⟩)
    | (go_at_call 8; refine (zzstate_open b c o n q W _ (by repeat (first | exact hg1 | apply Grown.alloc)) hb (by repeat (first | exact hs1 | apply SessAt.alloc))).mono ?_; rintro e w2 ⟨rfl, hg2⟩))
  go_ret
  exact ⟨rfl, hg2⟩

/-- The rank of a state. -/
def phase (c o n : Int) : Int := if n < o then (if n < c then 0 else 1) else 2

set_option maxHeartbeats 800000 in
theorem phase_taking (w : World) : Calls Try.prog 5 #[.string sTaking] w fun e w' => e = .returned (.int .i64 0) ∧ w' = w := by
  unfold sTaking
  go_enter Try.func5, Try.ntmps5
  go_wp2
  go_ret
  exact ⟨rfl, rfl⟩

set_option maxHeartbeats 800000 in
theorem phase_cutoff (w : World) : Calls Try.prog 5 #[.string sCutoff] w fun e w' => e = .returned (.int .i64 1) ∧ w' = w := by
  unfold sCutoff
  go_enter Try.func5, Try.ntmps5
  go_wp2
  go_ret
  exact ⟨rfl, rfl⟩

set_option maxHeartbeats 800000 in
theorem phase_opening (w : World) : Calls Try.prog 5 #[.string sOpening] w fun e w' => e = .returned (.int .i64 2) ∧ w' = w := by
  unfold sOpening
  go_enter Try.func5, Try.ntmps5
  go_wp2
  go_ret
  exact ⟨rfl, rfl⟩

theorem phase_any (c o n : Int) (w : World) : Calls Try.prog 5 #[.string (stShut c o n)] w fun e w' => e = .returned (.int .i64 (phase c o n)) ∧ w' = w := by
  unfold stShut phase
  by_cases h1 : n < o
  · by_cases h2 : n < c
    · simp only [h1, h2, if_true]; exact phase_taking w
    · simp only [h1, h2, if_true, if_false]; exact phase_cutoff w
  · simp only [h1, if_false]; exact phase_opening w
end Go.Proofs.Qxb6614823a

/-
  THE WALK of FnStateChangesOnlyAcrossABoundary: it returns true, each callee by its contract.
-/
import Derived.Test.Qxb6614823aStateAt
namespace Go.Proofs.Qxb6614823a.fnStateChangesOnlyAcrossABoundary
open Go.RowKit

/-! ### STEP 1: THE WALK: the Go text returns true, each callee by its contract. -/
theorem in64_of_wf {x : Int} (h : (Lit.int .i64 x).wf = true) : In64 x := by
  simp [Lit.wf, IntKind.min, IntKind.max, IntKind.signed, IntKind.bits] at h
  exact ⟨by omega, by omega⟩

theorem opened_lit (c o n : Int) (hc : In64 c) (ho : In64 o) (hn : In64 n) (W w : World) (hg : Grown W w) :
    Calls Try.prog 4 #[.int .i64 c, .int .i64 o, .int .i64 n, .bool true] w fun e w' => e = .returned (.string { data := #[79, 112, 101, 110, 101, 100] }) ∧ Grown W w' :=
  stateAt_open c o n hc ho hn W w hg

theorem ne_tc : (sTaking.toList == sCutoff.toList) = false := by decide +kernel
theorem ne_to : (sTaking.toList == sOpening.toList) = false := by decide +kernel
theorem ne_co : (sCutoff.toList == sOpening.toList) = false := by decide +kernel

/-- THE PLAIN LAW: the two states are one exactly when no boundary lies between. -/
theorem same_of (c o a b : Int) (h1 : ¬ o < c) (h2 : ¬ b < a) (h3 : ¬ (a < c ∧ c ≤ b)) (h4 : ¬ (a < o ∧ o ≤ b)) : stShut c o a = stShut c o b := by
  unfold stShut
  by_cases k1 : a < o <;> by_cases k2 : a < c <;> by_cases k3 : b < o <;> by_cases k4 : b < c <;> simp only [k1, k2, k3, k4, if_true, if_false] <;> omega

theorem differ_of (c o a b : Int) (h1 : ¬ o < c) (h2 : ¬ b < a) (h3 : (a < c ∧ c ≤ b) ∨ (a < o ∧ o ≤ b)) : ((stShut c o a).toList == (stShut c o b).toList) = false := by
  unfold stShut
  have := ne_tc; have := ne_to; have := ne_co
  by_cases k1 : a < o <;> by_cases k2 : a < c <;> by_cases k3 : b < o <;> by_cases k4 : b < c <;> simp only [k1, k2, k3, k4, if_true, if_false] <;> first | assumption | omega

theorem phase_bd (c o a b : Int) (h1 : ¬ o < c) (h2 : ¬ b < a) : 0 ≤ phase c o a ∧ 0 ≤ phase c o b ∧ phase c o a ≤ phase c o b := by
  unfold phase
  by_cases k1 : a < o <;> by_cases k2 : a < c <;> by_cases k3 : b < o <;> by_cases k4 : b < c <;> simp only [k1, k2, k3, k4, if_true, if_false] <;> omega

set_option maxHeartbeats 1600000 in
theorem walk_same (a0 a1 a2 a3 : Int) (w0 : In64 a0) (w1 : In64 a1) (w2 : In64 a2) (w3 : In64 a3) (w : World) (h1 : ¬ a1 < a0) (h2 : ¬ a3 < a2) (h3 : ¬ (a2 < a0 ∧ a0 ≤ a3)) (h4 : ¬ (a2 < a1 ∧ a1 ≤ a3)) :
    Calls Try.prog 3 #[.int .i64 a0, .int .i64 a1, .int .i64 a2, .int .i64 a3] w fun e w' => e = .returned (.bool true) ∧ Grown w w' := by
  have hsH : Hid _ := same_of a0 a1 a2 a3 h1 h2 h3 h4
  obtain ⟨p1, p2, p3⟩ := phase_bd a0 a1 a2 a3 h1 h2
  go_enter Try.func3, Try.ntmps3
  go_wp2_with fail
  refine (stateAt_shut a0 a1 a2 w0 w1 w2 w _ (Grown.refl _)).mono ?_
  rintro e u1 ⟨rfl, g1⟩
  go_wp2_with fail
  refine (stateAt_shut a0 a1 a3 w0 w1 w3 w _ g1).mono ?_
  rintro e u2 ⟨rfl, g2⟩
  go_wp2_with fail
  refine (phase_any a0 a1 a2 _).mono ?_
  rintro e u3 ⟨rfl, rfl⟩
  go_wp2_with fail
  refine (phase_any a0 a1 a3 _).mono ?_
  rintro e u4 ⟨rfl, rfl⟩
  have hs := hsH.out
  go_wp2_with fail
  all_goals
    refine (opened_lit a0 a1 a2 w0 w1 w2 w _ g2).mono ?_
    rintro e u5 ⟨rfl, g5⟩
    go_wp2_with fail
    refine (opened_lit a0 a1 a3 w0 w1 w3 w _ g5).mono ?_
    rintro e u6 ⟨rfl, g6⟩
    go_wp2_with fail
    go_ret
    exact ⟨rfl, g6⟩

set_option maxHeartbeats 1600000 in
theorem walk_differ (a0 a1 a2 a3 : Int) (w0 : In64 a0) (w1 : In64 a1) (w2 : In64 a2) (w3 : In64 a3) (w : World) (h1 : ¬ a1 < a0) (h2 : ¬ a3 < a2) (h3 : (a2 < a0 ∧ a0 ≤ a3) ∨ (a2 < a1 ∧ a1 ≤ a3)) :
    Calls Try.prog 3 #[.int .i64 a0, .int .i64 a1, .int .i64 a2, .int .i64 a3] w fun e w' => e = .returned (.bool true) ∧ Grown w w' := by
  have hsH : Hid _ := differ_of a0 a1 a2 a3 h1 h2 h3
  obtain ⟨p1, p2, p3⟩ := phase_bd a0 a1 a2 a3 h1 h2
  go_enter Try.func3, Try.ntmps3
  go_wp2_with fail
  refine (stateAt_shut a0 a1 a2 w0 w1 w2 w _ (Grown.refl _)).mono ?_
  rintro e u1 ⟨rfl, g1⟩
  go_wp2_with fail
  refine (stateAt_shut a0 a1 a3 w0 w1 w3 w _ g1).mono ?_
  rintro e u2 ⟨rfl, g2⟩
  go_wp2_with fail
  refine (phase_any a0 a1 a2 _).mono ?_
  rintro e u3 ⟨rfl, rfl⟩
  go_wp2_with fail
  refine (phase_any a0 a1 a3 _).mono ?_
  rintro e u4 ⟨rfl, rfl⟩
  have hs := hsH.out
  rcases h3 with ⟨h3, h4⟩ | ⟨h3, h4⟩
  all_goals
   go_wp2_with fail
   all_goals
    refine (opened_lit a0 a1 a2 w0 w1 w2 w _ g2).mono ?_
    rintro e u5 ⟨rfl, g5⟩
    go_wp2_with fail
    refine (opened_lit a0 a1 a3 w0 w1 w3 w _ g5).mono ?_
    rintro e u6 ⟨rfl, g6⟩
    go_wp2_with fail
    go_ret
    exact ⟨rfl, g6⟩

theorem walk (a0 : Int) (a1 : Int) (a2 : Int) (a3 : Int) (w0 : (Lit.int .i64 a0).wf = true) (w1 : (Lit.int .i64 a1).wf = true) (w2 : (Lit.int .i64 a2).wf = true) (w3 : (Lit.int .i64 a3).wf = true) (w : World) :
    Calls Try.prog 3 #[.int .i64 a0, .int .i64 a1, .int .i64 a2, .int .i64 a3] w fun e w' => e = .returned (.bool true) ∧ Grown w w' := by
  have i0 := in64_of_wf w0; have i1 := in64_of_wf w1; have i2 := in64_of_wf w2; have i3 := in64_of_wf w3
  by_cases h1 : a1 < a0
  · go_enter Try.func3, Try.ntmps3
    go_wp2
    go_ret
    exact ⟨rfl, Grown.refl _⟩
  by_cases h2 : a3 < a2
  · go_enter Try.func3, Try.ntmps3
    go_wp2
    go_ret
    exact ⟨rfl, Grown.refl _⟩
  by_cases h3 : (a2 < a0 ∧ a0 ≤ a3) ∨ (a2 < a1 ∧ a1 ≤ a3)
  · exact walk_differ a0 a1 a2 a3 i0 i1 i2 i3 w h1 h2 h3
  · exact walk_same a0 a1 a2 a3 i0 i1 i2 i3 w h1 h2 (fun h => h3 (Or.inl h)) (fun h => h3 (Or.inr h))

end Go.Proofs.Qxb6614823a.fnStateChangesOnlyAcrossABoundary

/-
  Level.String, Level.outcome and report.New by contracts.
-/
import Derived.Test.Qxb6614862aDoorRows
import Derived.WalkKit
import Derived.WalkSpells
import Derived.Laws.Pointers
import Derived.RowKit3
import Derived.Handy
import Derived.Maps.OwnSet
import Derived.Deep.QuietTactic
import Derived.BigQuiet
import Derived.Deep.RegionHeld3
namespace Go.Proofs.Qxb6614862aDoor
open Go.RowKit Go.Maps

theorem law : Keyed Tryd.prog 9 := string_keyed Tryd.underlying9
theorem zeroE (w : World) : (zeroValue 33).run Tryd.prog w = .ok (.int .i64 0) w := by kernel_rfl

def outcomeOf (l : Int) : Int := if 4 ≤ l then 2 else if l = 3 then 1 else 0

set_option maxHeartbeats 400000 in
theorem string_any (l : Int) (s : ByteArray) (w : World) (h0 : 0 ≤ l) (h1 : l < 6) (hc : w.cell? ⟨0, l.toNat, none⟩ = some (.string s)) :
    Calls Tryd.prog 5 #[.int .i64 l] w fun e w' => e = .returned (.string s) ∧ w' = w := by
  go_enter Tryd.func5, Tryd.ntmps5
  go_wp2
  go_ret
  exact ⟨rfl, rfl⟩

set_option maxHeartbeats 400000 in
theorem outcome_any (l : Int) (w : World) :
    Calls Tryd.prog 8 #[.int .i64 l] w fun e w' => e = .returned (.int .i64 (outcomeOf l)) ∧ w' = w := by
  unfold outcomeOf
  by_cases h4 : 4 ≤ l
  · go_enter Tryd.func8, Tryd.ntmps8
    go_wp2
    go_ret
    exact ⟨rfl, rfl⟩
  · by_cases h3 : l = 3
    · subst h3
      go_enter Tryd.func8, Tryd.ntmps8
      go_wp2
      go_ret
      exact ⟨rfl, rfl⟩
    · have h3' : (l == 3) = false := by simpa using h3
      go_enter Tryd.func8, Tryd.ntmps8
      go_wp2
      go_ret
      exact ⟨rfl, rfl⟩

abbrev tS : ByteArray := { data := #[116] }
abbrev zS : ByteArray := { data := #[122] }
abbrev eS : ByteArray := { data := #[] }

/-- At block b lies a message at level l of the test case t. -/
structure MsgAt (b : Nat) (l : Int) (w : World) : Prop where
  m0 : w.cell? ⟨b, 0, none⟩ = some (.int .i64 l)
  m1 : w.cell? ⟨b, 1, none⟩ = some (.string eS)
  m2 : w.cell? ⟨b, 2, none⟩ = some (.string tS)
  m3 : w.cell? ⟨b, 3, none⟩ = some (.string eS)
  m4 : w.cell? ⟨b, 4, none⟩ = some (.slice none 0 0)

abbrev RB (b m : Nat) (o : Int) : Obj := .cells #[.string zS, .slice (some ⟨b, 0, none⟩) 1 1, .map (some m), .int .i64 o, .int .i64 0] 37
abbrev MB (l : Int) : Obj := .cells #[.int .i64 l, .string eS, .string tS, .string eS, .slice none 0 0] 29
theorem key_t : keyOf Tryd.prog 9 (.string tS) = some (.string [116]) := WideMaps.keyOf_string_mk (s := tS) Tryd.underlying9 (by decide)

theorem below_drew_any {B : Nat} {w w' : World} (h : Below B w w') (n : Nat) : Below B w (w'.drewN n).drew := ⟨h.os, h.tape, h.output, h.size, h.block⟩

set_option maxHeartbeats 1600000 in
theorem new_any (b : Nat) (l o : Int) (w : World) (hm : MsgAt b l w) (ho : o = 0 ∨ o = 1 ∨ o = 2) (hl : outcomeOf l = o) :
    Calls Tryd.prog 7 #[.string zS, .slice (some ⟨b, 0, none⟩) 1 1, .int .i64 0] w fun e w' => ∃ r m, e = .returned (.pointer (some ⟨r, 0, none⟩)) ∧ w'.cell? ⟨r, 2, none⟩ = some (.map (some m)) ∧ w'.cell? ⟨r, 3, none⟩ = some (.int .i64 o) ∧
      w'.ownsMap (H := Unit) Tryd.prog 9 (plainElem Tryd.prog 33) m 1 ((DataW.map []).put (.string [116]) (.lit (.int .i64 o))) ∧ Below w.heap.size w w' := by
  obtain ⟨m0, m1, m2, m3, m4⟩ := hm
  have hbl : b < w.heap.size := World.block_lt_of_cell? _ _ m0
  have hmm := @run_makeMap Tryd.prog
  obtain ⟨w2, hw2⟩ : ∃ w2, w2 = ((w.alloc (.map #[] 0)).alloc (RB b w.heap.size 0)).alloc (MB l) := ⟨_, rfl⟩
  have r2 : w2.cell? ⟨w.heap.size + 1, 2, none⟩ = some (.map (some w.heap.size)) := by rw [hw2]; simp [go_sem]
  have r3 : w2.cell? ⟨w.heap.size + 1, 3, none⟩ = some (.int .i64 0) := by rw [hw2]; simp [go_sem]
  have f3 : w2.frozen? ⟨w.heap.size + 1, 3, none⟩ = false := by rw [hw2]; simp [go_sem]
  have n0 : w2.cell? ⟨w.heap.size + 1 + 1, 0, none⟩ = some (.int .i64 l) := by rw [hw2]; simp [go_sem]
  have n2 : w2.cell? ⟨w.heap.size + 1 + 1, 2, none⟩ = some (.string tS) := by rw [hw2]; simp [go_sem]
  have hown : w2.ownsMap (H := Unit) Tryd.prog 9 (plainElem Tryd.prog 33) w.heap.size 0 (.map []) := by rw [hw2]; exact ((World.ownsMap_made _ _ _ _).alloc _).alloc _
  have hlook : ∀ nq, (Instr.lookup 35 (.map (some w.heap.size)) (.string tS) false).run Tryd.prog (w2.drewN nq) = .ok (.int .i64 0) (w2.drewN nq) := by
    intro nq
    obtain ⟨c, hrun, hat, _⟩ := World.ownsMap.lookup_int (w := w2.drewN nq) (n := 0) (D := .map (H := Unit) []) hown law Tryd.underlying35 Tryd.underlying33 (zeroE _) key_t
    have : c = 0 := by simpa [DataW.atKey] using hat.symm
    subst this
    exact hrun
  have hoc : ∀ w, Calls Tryd.prog 8 #[.int .i64 l] w fun e w' => e = .returned (.int .i64 o) ∧ w' = w := fun w => hl ▸ outcome_any l w
  have hocH : Hid (∀ w, Calls Tryd.prog 8 #[.int .i64 l] w fun e w' => e = .returned (.int .i64 o) ∧ w' = w) := hoc
  have hw2H : Hid (w2 = _) := hw2
  have howo : (Lit.int .i64 o).wf = true := by rcases ho with rfl | rfl | rfl <;> decide
  clear hw2 hoc hl
  rcases ho with rfl | rfl | rfl
  all_goals
    go_enter Tryd.func7, Tryd.ntmps7
    go_wp2
    refine wp_loop_rounds 2 ?_
    rw [rounds_succ]
    go_wp2
    rw [← hw2H.out]
    go_quiet ((go_at_call 8; exact Calls.quiet_of_same (hocH.out _)))
    obtain ⟨w3, hw3⟩ : ∃ w3, w3 = w2.drewN nq := ⟨_, rfl⟩
    have s2 : w3.cell? ⟨w.heap.size + 1, 2, none⟩ = some (.map (some w.heap.size)) := by rw [hw3]; exact r2
    have s3 : w3.cell? ⟨w.heap.size + 1, 3, none⟩ = some (.int .i64 0) := by rw [hw3]; exact r3
    have g3 : w3.frozen? ⟨w.heap.size + 1, 3, none⟩ = false := by rw [hw3]; exact f3
    have p0 : w3.cell? ⟨w.heap.size + 1 + 1, 0, none⟩ = some (.int .i64 l) := by rw [hw3]; exact n0
    have p2 : w3.cell? ⟨w.heap.size + 1 + 1, 2, none⟩ = some (.string tS) := by rw [hw3]; exact n2
    have hown3 : w3.drew.ownsMap (H := Unit) Tryd.prog 9 (plainElem Tryd.prog 33) w.heap.size 0 (.map []) := by rw [hw3]; exact hown
    obtain ⟨w4, hrun, hown4, hgrow⟩ := hown3.update law Tryd.underlying35 (by decide) key_t (plainElem_int Tryd.underlying33 howo)
    rw [← hw3]
    have hw3H : Hid (w3 = _) := hw3
    clear hw3 r2 r3 f3 n0 n2 hlook
    go_wp2
    go_region
    have hlt3 : w.heap.size + 1 < w3.drew.heap.size := World.block_lt_of_cell? _ _ s3
    have hbk := hgrow.block (w.heap.size + 1) hlt3 (by simp)
    have t2 : w4.cell? ⟨w.heap.size + 1, 2, none⟩ = some (.map (some w.heap.size)) := (World.cell?_of_block (w := w3.drew) (a := ⟨w.heap.size + 1, 2, none⟩) hbk).trans s2
    have t3 : w4.cell? ⟨w.heap.size + 1, 3, none⟩ = some (.int .i64 0) := (World.cell?_of_block (w := w3.drew) (a := ⟨w.heap.size + 1, 3, none⟩) hbk).trans s3
    have h3 : w4.frozen? ⟨w.heap.size + 1, 3, none⟩ = false := (World.frozen?_of_block (w := w3.drew) (a := ⟨w.heap.size + 1, 3, none⟩) hbk).trans g3
    have hbel : Below w.heap.size w w4 := by
      have h0 : Below w.heap.size w w3.drew := by
        rw [hw3H.out, hw2H.out]
        exact below_drew_any (((((Below.refl _ _).alloc (Nat.le_refl _) _).alloc (by simp) _).alloc (by simp; omega) _)) _
      exact h0.grown hgrow h0.size (fun k hk => by cases hk; exact Nat.le_refl _)
    clear s2 s3 g3 p0 p2 hown3 hrun hgrow hbk hlt3
    go_wp2
    rw [rounds_succ]
    go_wp2
    go_ret
    exact ⟨w.heap.size + 1, w.heap.size, rfl, (World.cell?_setCell_other _ ⟨w.heap.size + 1, 3, none⟩ ⟨w.heap.size + 1, 2, none⟩ _ (by simp)).trans t2, World.cell?_setCell_same _ ⟨w.heap.size + 1, 3, none⟩ _ t3, hown4.setCell (a := ⟨w.heap.size + 1, 3, none⟩) (by simp) _, hbel.setCell (by simp) _⟩

theorem outcome_cases (l : Int) : outcomeOf l = 0 ∨ outcomeOf l = 1 ∨ outcomeOf l = 2 := by
  unfold outcomeOf; split
  · exact Or.inr (Or.inr rfl)
  · split
    · exact Or.inr (Or.inl rfl)
    · exact Or.inl rfl
end Go.Proofs.Qxb6614862aDoor

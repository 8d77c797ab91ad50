/-
  THE WALK of FnLevelStringAgreesWithNewOutcome, each callee by its contract.
-/
import Derived.Test.Qxb6614862aDoorWalks
namespace Go.Proofs.Qxb6614862aDoor
open Go.RowKit Go.Maps

theorem put_has (o : Int) : Maps.has ((DataW.map (H := Unit) []).put (.string [116]) (.lit (.int .i64 o))) (.string [116]) = true := by
  rfl
theorem put_at (o : Int) : ((DataW.map (H := Unit) []).put (.string [116]) (.lit (.int .i64 o))).atKey (.string [116]) (.lit (.int .i64 0)) = .lit (.int .i64 o) := by
  rfl

/-- The six names. -/
abbrev nm0 : ByteArray := { data := #[68, 69, 66, 85, 71] }
abbrev nm1 : ByteArray := { data := #[73, 78, 70, 79] }
abbrev nm2 : ByteArray := { data := #[78, 79, 84, 73, 67, 69] }
abbrev nm3 : ByteArray := { data := #[87, 65, 82, 78, 73, 78, 71] }
abbrev nm4 : ByteArray := { data := #[69, 82, 82, 79, 82] }
abbrev nm5 : ByteArray := { data := #[67, 82, 73, 84, 73, 67, 65, 76] }

set_option maxHeartbeats 1600000 in
theorem law0 (w : World) (hc : w.cell? ⟨0, 0, none⟩ = some (.string nm0)) :
    Calls Tryd.prog 4 #[.int .i64 0] w fun e w' => e = .returned (.bool true) ∧ Below w.heap.size w w' := by
  have hH : Hid (w.cell? ⟨0, 0, none⟩ = some (.string nm0)) := hc
  clear hc
  go_enter Tryd.func4, Tryd.ntmps4
  go_wp2_with fail
  refine (string_any 0 nm0 w (by decide) (by decide) hH.out).mono ?_
  rintro e u ⟨rfl, hu⟩
  subst hu
  go_wp2_with fail
  refine (new_any _ 0 0 _ (by constructor <;> simp [go_sem]) (Or.inl rfl) rfl).mono ?_
  rintro e u2 ⟨r, m, rfl, k2, k3, hown, hbel⟩
  have hb2 : Below u.heap.size u u2 := ((Below.refl _ _).alloc (Nat.le_refl _) _).trans (hbel.mono (by simp))
  clear hbel hH
  go_wp2_with (at_lookup; refine wpList_lookup_own_ok_int _ rfl _ _ 35 rfl 9 33 .i64 law Tryd.underlying35 Tryd.underlying33 (zeroE _) m 1 _ rfl hown _ _ rfl key_t ?_; intro c hat hwc; rw [put_has]; rw [put_at] at hat; injection hat with hat; injection hat with hq hat; subst hat)
  go_ret
  exact ⟨rfl, hb2⟩

set_option maxHeartbeats 1600000 in
theorem law1 (w : World) (hc : w.cell? ⟨0, 1, none⟩ = some (.string nm1)) :
    Calls Tryd.prog 4 #[.int .i64 1] w fun e w' => e = .returned (.bool true) ∧ Below w.heap.size w w' := by
  have hH : Hid (w.cell? ⟨0, 1, none⟩ = some (.string nm1)) := hc
  clear hc
  go_enter Tryd.func4, Tryd.ntmps4
  go_wp2_with fail
  refine (string_any 1 nm1 w (by decide) (by decide) hH.out).mono ?_
  rintro e u ⟨rfl, hu⟩
  subst hu
  go_wp2_with fail
  refine (new_any _ 1 0 _ (by constructor <;> simp [go_sem]) (Or.inl rfl) rfl).mono ?_
  rintro e u2 ⟨r, m, rfl, k2, k3, hown, hbel⟩
  have hb2 : Below u.heap.size u u2 := ((Below.refl _ _).alloc (Nat.le_refl _) _).trans (hbel.mono (by simp))
  clear hbel hH
  go_wp2_with (at_lookup; refine wpList_lookup_own_ok_int _ rfl _ _ 35 rfl 9 33 .i64 law Tryd.underlying35 Tryd.underlying33 (zeroE _) m 1 _ rfl hown _ _ rfl key_t ?_; intro c hat hwc; rw [put_has]; rw [put_at] at hat; injection hat with hat; injection hat with hq hat; subst hat)
  go_ret
  exact ⟨rfl, hb2⟩

set_option maxHeartbeats 1600000 in
theorem law2 (w : World) (hc : w.cell? ⟨0, 2, none⟩ = some (.string nm2)) :
    Calls Tryd.prog 4 #[.int .i64 2] w fun e w' => e = .returned (.bool true) ∧ Below w.heap.size w w' := by
  have hH : Hid (w.cell? ⟨0, 2, none⟩ = some (.string nm2)) := hc
  clear hc
  go_enter Tryd.func4, Tryd.ntmps4
  go_wp2_with fail
  refine (string_any 2 nm2 w (by decide) (by decide) hH.out).mono ?_
  rintro e u ⟨rfl, hu⟩
  subst hu
  go_wp2_with fail
  refine (new_any _ 2 0 _ (by constructor <;> simp [go_sem]) (Or.inl rfl) rfl).mono ?_
  rintro e u2 ⟨r, m, rfl, k2, k3, hown, hbel⟩
  have hb2 : Below u.heap.size u u2 := ((Below.refl _ _).alloc (Nat.le_refl _) _).trans (hbel.mono (by simp))
  clear hbel hH
  go_wp2_with (at_lookup; refine wpList_lookup_own_ok_int _ rfl _ _ 35 rfl 9 33 .i64 law Tryd.underlying35 Tryd.underlying33 (zeroE _) m 1 _ rfl hown _ _ rfl key_t ?_; intro c hat hwc; rw [put_has]; rw [put_at] at hat; injection hat with hat; injection hat with hq hat; subst hat)
  go_ret
  exact ⟨rfl, hb2⟩

set_option maxHeartbeats 1600000 in
theorem law3 (w : World) (hc : w.cell? ⟨0, 3, none⟩ = some (.string nm3)) :
    Calls Tryd.prog 4 #[.int .i64 3] w fun e w' => e = .returned (.bool true) ∧ Below w.heap.size w w' := by
  have hH : Hid (w.cell? ⟨0, 3, none⟩ = some (.string nm3)) := hc
  clear hc
  go_enter Tryd.func4, Tryd.ntmps4
  go_wp2_with fail
  refine (string_any 3 nm3 w (by decide) (by decide) hH.out).mono ?_
  rintro e u ⟨rfl, hu⟩
  subst hu
  go_wp2_with fail
  refine (new_any _ 3 1 _ (by constructor <;> simp [go_sem]) (Or.inr (Or.inl rfl)) rfl).mono ?_
  rintro e u2 ⟨r, m, rfl, k2, k3, hown, hbel⟩
  have hb2 : Below u.heap.size u u2 := ((Below.refl _ _).alloc (Nat.le_refl _) _).trans (hbel.mono (by simp))
  clear hbel hH
  go_wp2_with (at_lookup; refine wpList_lookup_own_ok_int _ rfl _ _ 35 rfl 9 33 .i64 law Tryd.underlying35 Tryd.underlying33 (zeroE _) m 1 _ rfl hown _ _ rfl key_t ?_; intro c hat hwc; rw [put_has]; rw [put_at] at hat; injection hat with hat; injection hat with hq hat; subst hat)
  go_ret
  exact ⟨rfl, hb2⟩

set_option maxHeartbeats 1600000 in
theorem law4 (w : World) (hc : w.cell? ⟨0, 4, none⟩ = some (.string nm4)) :
    Calls Tryd.prog 4 #[.int .i64 4] w fun e w' => e = .returned (.bool true) ∧ Below w.heap.size w w' := by
  have hH : Hid (w.cell? ⟨0, 4, none⟩ = some (.string nm4)) := hc
  clear hc
  go_enter Tryd.func4, Tryd.ntmps4
  go_wp2_with fail
  refine (string_any 4 nm4 w (by decide) (by decide) hH.out).mono ?_
  rintro e u ⟨rfl, hu⟩
  subst hu
  go_wp2_with fail
  refine (new_any _ 4 2 _ (by constructor <;> simp [go_sem]) (Or.inr (Or.inr rfl)) rfl).mono ?_
  rintro e u2 ⟨r, m, rfl, k2, k3, hown, hbel⟩
  have hb2 : Below u.heap.size u u2 := ((Below.refl _ _).alloc (Nat.le_refl _) _).trans (hbel.mono (by simp))
  clear hbel hH
  go_wp2_with (at_lookup; refine wpList_lookup_own_ok_int _ rfl _ _ 35 rfl 9 33 .i64 law Tryd.underlying35 Tryd.underlying33 (zeroE _) m 1 _ rfl hown _ _ rfl key_t ?_; intro c hat hwc; rw [put_has]; rw [put_at] at hat; injection hat with hat; injection hat with hq hat; subst hat)
  go_ret
  exact ⟨rfl, hb2⟩

set_option maxHeartbeats 1600000 in
theorem law5 (w : World) (hc : w.cell? ⟨0, 5, none⟩ = some (.string nm5)) :
    Calls Tryd.prog 4 #[.int .i64 5] w fun e w' => e = .returned (.bool true) ∧ Below w.heap.size w w' := by
  have hH : Hid (w.cell? ⟨0, 5, none⟩ = some (.string nm5)) := hc
  clear hc
  go_enter Tryd.func4, Tryd.ntmps4
  go_wp2_with fail
  refine (string_any 5 nm5 w (by decide) (by decide) hH.out).mono ?_
  rintro e u ⟨rfl, hu⟩
  subst hu
  go_wp2_with fail
  refine (new_any _ 5 2 _ (by constructor <;> simp [go_sem]) (Or.inr (Or.inr rfl)) rfl).mono ?_
  rintro e u2 ⟨r, m, rfl, k2, k3, hown, hbel⟩
  have hb2 : Below u.heap.size u u2 := ((Below.refl _ _).alloc (Nat.le_refl _) _).trans (hbel.mono (by simp))
  clear hbel hH
  go_wp2_with (at_lookup; refine wpList_lookup_own_ok_int _ rfl _ _ 35 rfl 9 33 .i64 law Tryd.underlying35 Tryd.underlying33 (zeroE _) m 1 _ rfl hown _ _ rfl key_t ?_; intro c hat hwc; rw [put_has]; rw [put_at] at hat; injection hat with hat; injection hat with hq hat; subst hat)
  go_ret
  exact ⟨rfl, hb2⟩

/-- THE WALK: for every level, where the table holds the six names. -/
theorem walk (l : Int) (w : World) (c0 : w.cell? ⟨0, 0, none⟩ = some (.string nm0)) (c1 : w.cell? ⟨0, 1, none⟩ = some (.string nm1)) (c2 : w.cell? ⟨0, 2, none⟩ = some (.string nm2))
    (c3 : w.cell? ⟨0, 3, none⟩ = some (.string nm3)) (c4 : w.cell? ⟨0, 4, none⟩ = some (.string nm4)) (c5 : w.cell? ⟨0, 5, none⟩ = some (.string nm5)) :
    Calls Tryd.prog 4 #[.int .i64 l] w fun e w' => e = .returned (.bool true) ∧ Below w.heap.size w w' := by
  by_cases h0 : l < 0
  · clear c0 c1 c2 c3 c4 c5
    go_enter Tryd.func4, Tryd.ntmps4
    go_wp2
    go_ret
    exact ⟨rfl, Below.refl _ _⟩
  by_cases h5 : 5 < l
  · clear c0 c1 c2 c3 c4 c5
    go_enter Tryd.func4, Tryd.ntmps4
    go_wp2
    go_ret
    exact ⟨rfl, Below.refl _ _⟩
  have : l = 0 ∨ l = 1 ∨ l = 2 ∨ l = 3 ∨ l = 4 ∨ l = 5 := by omega
  rcases this with rfl | rfl | rfl | rfl | rfl | rfl
  · exact law0 w c0
  · exact law1 w c1
  · exact law2 w c2
  · exact law3 w c3
  · exact law4 w c4
  · exact law5 w c5

end Go.Proofs.Qxb6614862aDoor

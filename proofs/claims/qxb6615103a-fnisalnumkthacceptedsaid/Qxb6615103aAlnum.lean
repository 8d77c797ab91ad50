/-
  THE WALK of FnIsAlnumKthAccepted, with isAlnum by a contract.
-/
import Derived.Test.Qxb6615103aRows
import Derived.WalkKit
import Derived.WalkSpells
import Derived.RowKit3
import Derived.Handy
namespace Go.Proofs.Qxb6615103a.fnIsAlnumKthAccepted
open Go.RowKit

/-- Is the byte accepted? -/
def Acc (c : Int) : Prop := (97 ≤ c ∧ c ≤ 122) ∨ (48 ≤ c ∧ c ≤ 57)

set_option maxHeartbeats 400000 in
theorem isAlnum_yes (c : Int) (w : World) (h : Acc c) : Calls Try.prog 9 #[.int .u8 c] w fun e w' => e = .returned (.bool true) ∧ w' = w := by
  rcases h with ⟨h1, h2⟩ | ⟨h1, h2⟩
  · go_enter Try.func9, Try.ntmps9
    go_wp2
    go_ret
    exact ⟨rfl, rfl⟩
  · have h3 : c < 97 := by omega
    go_enter Try.func9, Try.ntmps9
    go_wp2
    go_ret
    exact ⟨rfl, rfl⟩

set_option maxHeartbeats 400000 in
theorem isAlnum_no (c : Int) (w : World) (h : ¬ Acc c) : Calls Try.prog 9 #[.int .u8 c] w fun e w' => e = .returned (.bool false) ∧ w' = w := by
  have h' : c < 48 ∨ (57 < c ∧ c < 97) ∨ 122 < c := by unfold Acc at h; omega
  clear h
  rcases h' with h1 | ⟨h1, h2⟩ | h1
  · have h3 : c < 97 := by omega
    go_enter Try.func9, Try.ntmps9
    go_wp2
    go_ret
    exact ⟨rfl, rfl⟩
  · have h3 : 48 ≤ c := by omega
    have h6 : decide (c ≤ 57) = false := by simp; omega
    go_enter Try.func9, Try.ntmps9
    go_wp2
    go_ret
    exact ⟨rfl, rfl⟩
  · have h3 : 97 ≤ c := by omega
    have h4 : 48 ≤ c := by omega
    have h6 : decide (c ≤ 57) = false := by simp; omega
    have h7 : decide (c ≤ 122) = false := by simp; omega
    go_enter Try.func9, Try.ntmps9
    go_wp2
    go_ret
    exact ⟨rfl, rfl⟩

set_option maxHeartbeats 400000 in
theorem zz_yes (c : Int) (w : World) (h : Acc c) : Calls Try.prog 5 #[.int .u8 c] w fun e w' => e = .returned (.bool true) ∧ w' = w := by
  go_enter Try.func5, Try.ntmps5
  go_wp2_with (go_at_call 9; refine (isAlnum_yes c _ h).mono ?_; rintro e w' ⟨rfl, rfl⟩)
  go_ret
  exact ⟨rfl, rfl⟩

set_option maxHeartbeats 400000 in
theorem zz_no (c : Int) (w : World) (h : ¬ Acc c) : Calls Try.prog 5 #[.int .u8 c] w fun e w' => e = .returned (.bool false) ∧ w' = w := by
  go_enter Try.func5, Try.ntmps5
  go_wp2_with (go_at_call 9; refine (isAlnum_no c _ h).mono ?_; rintro e w' ⟨rfl, rfl⟩)
  go_ret
  exact ⟨rfl, rfl⟩

/-- How many bytes below c are accepted. -/
def cnt (c : Int) : Int := if c ≤ 48 then 0 else if c ≤ 58 then c - 48 else if c ≤ 97 then 10 else if c ≤ 123 then c - 87 else 36
/-- The k-th accepted byte. -/
def kth (k : Int) : Int := if k < 10 then 48 + k else 97 + k - 10
/-- Has the k-th accepted byte been met below c? -/
def fnd (k c : Int) : Bool := decide (0 ≤ k ∧ k < cnt c)
def gt (k c : Int) : Int := if 0 ≤ k ∧ k < cnt c then kth k else 0

theorem cnt_bd (c : Int) : 0 ≤ cnt c ∧ cnt c ≤ 36 := by
  unfold cnt; repeat' split
  all_goals omega
theorem cnt_yes (c : Int) (h : Acc c) : cnt (c + 1) = cnt c + 1 := by
  unfold cnt; unfold Acc at h; repeat' split
  all_goals omega
theorem cnt_no (c : Int) (h : ¬ Acc c) : cnt (c + 1) = cnt c := by
  unfold cnt; unfold Acc at h; repeat' split
  all_goals omega
theorem kth_cnt (c : Int) (h : Acc c) : kth (cnt c) = c := by
  unfold kth cnt; unfold Acc at h; repeat' split
  all_goals omega
theorem fnd_no (k c : Int) (h : ¬ Acc c) : fnd k (c + 1) = fnd k c := by unfold fnd; rw [cnt_no c h]
theorem gt_no (k c : Int) (h : ¬ Acc c) : gt k (c + 1) = gt k c := by unfold gt; rw [cnt_no c h]
theorem fnd_hit (k c : Int) (h : Acc c) (hk : cnt c = k) : fnd k (c + 1) = true := by
  unfold fnd; rw [cnt_yes c h]; have := cnt_bd c; simp; omega
theorem gt_hit (k c : Int) (h : Acc c) (hk : cnt c = k) : gt k (c + 1) = c := by
  unfold gt; rw [cnt_yes c h]; have := cnt_bd c
  rw [if_pos (by omega), ← hk, kth_cnt c h]
theorem fnd_miss (k c : Int) (h : Acc c) (hk : ¬ cnt c = k) : fnd k (c + 1) = fnd k c := by
  unfold fnd; rw [cnt_yes c h, Bool.eq_iff_iff]; simp; omega
theorem gt_miss (k c : Int) (h : Acc c) (hk : ¬ cnt c = k) : gt k (c + 1) = gt k c := by
  unfold gt; rw [cnt_yes c h]
  by_cases hp : 0 ≤ k ∧ k < cnt c
  · rw [if_pos hp, if_pos (by omega)]
  · rw [if_neg hp, if_neg (by omega)]
theorem gt_start (k : Int) : gt k 0 = 0 := by
  have e : cnt 0 = 0 := by decide
  unfold gt; rw [e, if_neg (by omega)]
theorem cnt_end : cnt 256 = 36 := by decide
theorem fnd_out (k : Int) (h : k < 0 ∨ 36 ≤ k) : fnd k 256 = false := by unfold fnd; rw [cnt_end]; simp; omega
theorem fnd_in (k : Int) (h0 : 0 ≤ k) (h1 : k < 36) : fnd k 256 = true := by unfold fnd; rw [cnt_end]; simp; omega
theorem gt_in (k : Int) (h0 : 0 ≤ k) (h1 : k < 36) : gt k 256 = kth k := by unfold gt; rw [cnt_end, if_pos ⟨h0, h1⟩]

set_option maxHeartbeats 1600000 in
theorem walk_main (k : Int) (w : World) : Calls Try.prog 3 #[.int .i64 k] w fun e w' => e = .returned (.bool true) ∧ w' = w := by
  go_enter Try.func3, Try.ntmps3
  go_wp2_with fail
  go_loop [3, 4, 5, 6] (fun f g n c => ∃ x m y : Int, ∃ t : Bool, 0 ≤ x ∧ x ≤ 256 ∧ c = .int .i64 x ∧ n = .int .i64 m ∧ f = .bool t ∧ g = .int .u8 y ∧ Hid (m = cnt x) ∧ Hid (t = fnd k x) ∧ Hid (y = gt k x)) (fun _ _ _ c => (256 - intOf c).toNat)
  case atStart => exact ⟨0, 0, 0, false, by omega, by omega, rfl, rfl, rfl, rfl, (by decide : (0 : Int) = cnt 0), (by unfold fnd cnt; simp : false = fnd k 0), (gt_start k).symm⟩
  case round =>
    obtain ⟨x, m, y, t, hx0, hx1, rfl, rfl, rfl, rfl, hm, ht, hy⟩ := hrel
    have hbd := cnt_bd x
    have hm0 : 0 ≤ m := by rw [hm.out]; exact hbd.1
    have hm1 : m ≤ 36 := by rw [hm.out]; exact hbd.2
    clear hbd
    by_cases hlt : x < 256
    · by_cases ha : Acc x
      · have haH : Hid (Acc x) := ha
        clear ha
        by_cases hk : m = k
        · subst hk
          go_wp2_with fail
          refine (zz_yes x _ haH.out).mono ?_
          rintro e w1 ⟨rfl, rfl⟩
          go_wp2_with fail
          go_round
          case rel => exact ⟨x + 1, m + 1, x, true, by omega, by omega, rfl, rfl, rfl, rfl, (by rw [cnt_yes x haH.out, ← hm.out] : m + 1 = cnt (x + 1)), (fnd_hit m x haH.out hm.out.symm).symm, (gt_hit m x haH.out hm.out.symm).symm⟩
          case measure => simp [intOf]; omega
        · have hk' : (m == k) = false := by simpa using hk
          go_wp2_with fail
          refine (zz_yes x _ haH.out).mono ?_
          rintro e w1 ⟨rfl, rfl⟩
          go_wp2_with fail
          go_round
          case rel => exact ⟨x + 1, m + 1, y, t, by omega, by omega, rfl, rfl, rfl, rfl, (by rw [cnt_yes x haH.out, ← hm.out] : m + 1 = cnt (x + 1)), (by rw [fnd_miss k x haH.out (by rw [← hm.out]; exact hk)]; exact ht.out : t = fnd k (x + 1)), (by rw [gt_miss k x haH.out (by rw [← hm.out]; exact hk)]; exact hy.out : y = gt k (x + 1))⟩
          case measure => simp [intOf]; omega
      · have haH : Hid (¬ Acc x) := ha
        clear ha
        go_wp2_with fail
        refine (zz_no x _ haH.out).mono ?_
        rintro e w1 ⟨rfl, rfl⟩
        go_wp2_with fail
        go_round
        case rel => exact ⟨x + 1, m, y, t, by omega, by omega, rfl, rfl, rfl, rfl, (by rw [cnt_no x haH.out, ← hm.out] : m = cnt (x + 1)), (by rw [fnd_no k x haH.out]; exact ht.out : t = fnd k (x + 1)), (by rw [gt_no k x haH.out]; exact hy.out : y = gt k (x + 1))⟩
        case measure => simp [intOf]; omega
    · have hx : x = 256 := by omega
      subst hx
      have e1 := hm.out
      have e2 := ht.out
      have e3 := hy.out
      rw [cnt_end] at e1
      subst e1
      clear hm ht hy
      by_cases hout : k < 0 ∨ 36 ≤ k
      · rw [fnd_out k hout] at e2
        subst e2
        clear e3
        rcases hout with h1 | h1
        all_goals
          go_wp2_with fail
          go_ret
          exact ⟨rfl, rfl⟩
      · have h1 : 0 ≤ k := by omega
        have h2 : k < 36 := by omega
        rw [fnd_in k h1 h2] at e2
        rw [gt_in k h1 h2, kth] at e3
        subst e2
        by_cases h3 : k < 10
        · rw [if_pos h3] at e3
          subst e3
          clear hout
          go_wp2_with fail
          go_ret
          exact ⟨rfl, rfl⟩
        · rw [if_neg h3] at e3
          subst e3
          clear hout
          go_wp2_with fail
          go_ret
          exact ⟨rfl, rfl⟩
end Go.Proofs.Qxb6615103a.fnIsAlnumKthAccepted

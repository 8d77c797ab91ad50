/-
  time.Time's methods on the road, each by a contract: nsec, sec, addSec.
-/
import Derived.Test.Qxb6614823aRows
import Derived.Test.Qxb6614823aBits
import Derived.WalkKit
import Derived.WalkSpells
import Derived.Laws.Pointers
import Derived.RowKit3
namespace Go.Proofs.Qxb6614823a
open Go.RowKit

set_option maxHeartbeats 400000 in
theorem nsec_any (b : Nat) (n : Int) (w : World) (h0 : 0 ≤ n) (h1 : n < 1000000000) (hc : w.cell? ⟨b, 0, none⟩ = some (.int .u64 n)) :
    Calls Try.prog 12 #[.pointer (some ⟨b, 0, none⟩)] w fun e w' => e = .returned (.int .i32 n) ∧ w' = w := by
  have hb := and_low n h0 h1
  go_enter Try.func12, Try.ntmps12
  go_wp2
  go_ret
  exact ⟨by rfl, rfl⟩

set_option maxHeartbeats 400000 in
theorem sec_any (b : Nat) (n s : Int) (w : World) (h0 : 0 ≤ n) (h1 : n < 1000000000) (hc : w.cell? ⟨b, 0, none⟩ = some (.int .u64 n)) (hd : w.cell? ⟨b, 1, none⟩ = some (.int .i64 s)) :
    Calls Try.prog 18 #[.pointer (some ⟨b, 0, none⟩)] w fun e w' => e = .returned (.int .i64 s) ∧ w' = w := by
  have hb := and_top n h0 h1
  go_enter Try.func18, Try.ntmps18
  go_wp2
  go_ret
  exact ⟨by rfl, rfl⟩

set_option maxHeartbeats 400000 in
theorem addSec_any (b : Nat) (n d : Int) (w : World) (h0 : 0 ≤ n) (h1 : n < 1000000000) (d0 : -10000000000 ≤ d) (d1 : d ≤ 10000000000)
    (hc : w.cell? ⟨b, 0, none⟩ = some (.int .u64 n)) (hd : w.cell? ⟨b, 1, none⟩ = some (.int .i64 0)) (hz : w.frozen? ⟨b, 1, none⟩ = false) :
    Calls Try.prog 13 #[.pointer (some ⟨b, 0, none⟩), .int .i64 d] w fun e w' => e = .returned (.tuple #[]) ∧ w' = w.setCell ⟨b, 1, none⟩ (.int .i64 d) := by
  have hb := and_top n h0 h1
  by_cases hp : 0 < d
  all_goals
    go_enter Try.func13, Try.ntmps13
    go_wp2
    go_end0
    exact ⟨rfl, rfl⟩

/-- The instant ns nanoseconds after the zero time: its value, and the block that holds it. -/
abbrev T (ns : Int) : Value := .agg #[.int .u64 (ns % 1000000000), .int .i64 (ns / 1000000000), .pointer none]
abbrev TB (ns : Int) : Obj := .cells #[.int .u64 (ns % 1000000000), .int .i64 (ns / 1000000000), .pointer none] 30

set_option maxHeartbeats 800000 in
theorem add_nonneg (ns : Int) (w : World) (hp : 0 ≤ ns) (h1 : ns ≤ 9223372036854775807) :
    Calls Try.prog 9 #[.agg #[.int .u64 0, .int .i64 0, .pointer none], .int .i64 ns] w fun e w' => e = .returned (T ns) ∧ w' = (w.alloc (TB ns)).alloc (TB ns) := by
  have hn := andNot_zero
  have r0 : 0 ≤ ns % 1000000000 := by omega
  have r1 : ns % 1000000000 < 1000000000 := by omega
  have q0 : 0 ≤ ns / 1000000000 := by omega
  have q1 : ns / 1000000000 ≤ 9223372036 := by omega
  have ho := or_zero _ r0 r1
  have ht := and_top _ r0 r1
  go_enter Try.func9, Try.ntmps9
  go_wp2_with (first
    | (go_at_call 12; refine (nsec_any w.heap.size 0 _ (by omega) (by omega) (by simp [go_sem])).mono ?_; rintro e w' ⟨rfl, rfl⟩)
    | (go_at_call 13; refine (addSec_any w.heap.size (ns % 1000000000) (ns / 1000000000) _ r0 r1 (by omega) (by omega) (by simp [go_sem]) (by simp [go_sem]) (by simp [go_sem])).mono ?_; rintro e w' ⟨rfl, rfl⟩))
  exact bodyPost_ret (v := T ns) (by simp [results, Try.results9, go_sem]) rfl ⟨rfl, rfl⟩

theorem tdiv_neg_eq (ns : Int) (hp : ns < 0) : ns.tdiv 1000000000 = -(-ns / 1000000000) ∧ ns.tmod 1000000000 = -(-ns % 1000000000) := by
  obtain ⟨m, rfl⟩ : ∃ m : Int, ns = -m := ⟨-ns, by omega⟩
  have hm : 0 ≤ m := by omega
  refine ⟨?_, ?_⟩
  · rw [Int.neg_tdiv, Int.tdiv_eq_ediv_of_nonneg hm, Int.neg_neg]
  · rw [Int.neg_tmod, Int.tmod_eq_emod_of_nonneg hm, Int.neg_neg]

set_option maxHeartbeats 800000 in
theorem add_neg (ns : Int) (w : World) (h0 : -9223372036854775808 ≤ ns) (hp : ns < 0) :
    Calls Try.prog 9 #[.agg #[.int .u64 0, .int .i64 0, .pointer none], .int .i64 ns] w fun e w' => e = .returned (T ns) ∧ w' = (w.alloc (TB ns)).alloc (TB ns) := by
  have hn := andNot_zero
  obtain ⟨eq, er⟩ := tdiv_neg_eq ns hp
  have e1 : -ns = 1000000000 * (-ns / 1000000000) + -ns % 1000000000 := by omega
  generalize hq : -ns / 1000000000 = q at *
  generalize hr : -ns % 1000000000 = r at *
  have r0 : 0 ≤ r := by omega
  have r1 : r < 1000000000 := by omega
  have q0 : 0 ≤ q := by omega
  have q1 : q ≤ 9223372036 := by omega
  clear hq hr
  by_cases hz : r = 0
  · have t1 : ns % 1000000000 = 0 := by omega
    have t2 : ns / 1000000000 = -q := by omega
    show Calls _ _ _ _ fun e w' => e = Ending.returned (.agg #[.int .u64 (ns % 1000000000), .int .i64 (ns / 1000000000), .pointer none]) ∧ w' = (w.alloc (.cells #[.int .u64 (ns % 1000000000), .int .i64 (ns / 1000000000), .pointer none] 30)).alloc (.cells #[.int .u64 (ns % 1000000000), .int .i64 (ns / 1000000000), .pointer none] 30)
    rw [t1, t2]
    subst hz
    clear t1 t2 e1
    have ho := or_zero 0 (by omega) (by omega)
    have ht := and_top 0 (by omega) (by omega)
    go_enter Try.func9, Try.ntmps9
    go_wp2_with (first
      | (go_at_call 12; refine (nsec_any w.heap.size 0 _ (by omega) (by omega) (by simp [go_sem])).mono ?_; rintro e w' ⟨rfl, rfl⟩)
      | (go_at_call 13; refine (addSec_any w.heap.size 0 (-q) _ (by omega) (by omega) (by omega) (by omega) (by simp [go_sem]) (by simp [go_sem]) (by simp [go_sem])).mono ?_; rintro e w' ⟨rfl, rfl⟩))
    exact bodyPost_ret (v := .agg #[.int .u64 0, .int .i64 (-q), .pointer none]) (by simp [results, Try.results9, go_sem]) rfl ⟨rfl, rfl⟩
  · have t1 : ns % 1000000000 = -r + 1000000000 := by omega
    have t2 : ns / 1000000000 = -q - 1 := by omega
    show Calls _ _ _ _ fun e w' => e = Ending.returned (.agg #[.int .u64 (ns % 1000000000), .int .i64 (ns / 1000000000), .pointer none]) ∧ w' = (w.alloc (.cells #[.int .u64 (ns % 1000000000), .int .i64 (ns / 1000000000), .pointer none] 30)).alloc (.cells #[.int .u64 (ns % 1000000000), .int .i64 (ns / 1000000000), .pointer none] 30)
    rw [t1, t2]
    have g0 : 0 < r := by omega
    clear t1 t2 e1 hz
    have ho := or_zero (-r + 1000000000) (by omega) (by omega)
    have ht := and_top (-r + 1000000000) (by omega) (by omega)
    go_enter Try.func9, Try.ntmps9
    go_wp2_with (first
      | (go_at_call 12; refine (nsec_any w.heap.size 0 _ (by omega) (by omega) (by simp [go_sem])).mono ?_; rintro e w' ⟨rfl, rfl⟩)
      | (go_at_call 13; refine (addSec_any w.heap.size (-r + 1000000000) (-q - 1) _ (by omega) (by omega) (by omega) (by omega) (by simp [go_sem]) (by simp [go_sem]) (by simp [go_sem])).mono ?_; rintro e w' ⟨rfl, rfl⟩))
    exact bodyPost_ret (v := .agg #[.int .u64 (-r + 1000000000), .int .i64 (-q - 1), .pointer none]) (by simp [results, Try.results9, go_sem]) rfl ⟨rfl, rfl⟩

theorem add_any (ns : Int) (w : World) (h0 : -9223372036854775808 ≤ ns) (h1 : ns ≤ 9223372036854775807) :
    Calls Try.prog 9 #[.agg #[.int .u64 0, .int .i64 0, .pointer none], .int .i64 ns] w fun e w' => e = .returned (T ns) ∧ w' = (w.alloc (TB ns)).alloc (TB ns) := by
  by_cases hp : 0 ≤ ns
  · exact add_nonneg ns w hp h1
  · exact add_neg ns w h0 (by omega)

set_option maxHeartbeats 800000 in
/-- service.ZZinstant. -/
theorem instant_any (ns : Int) (w : World) (h0 : -9223372036854775808 ≤ ns) (h1 : ns ≤ 9223372036854775807) :
    Calls Try.prog 7 #[.int .i64 ns] w fun e w' => e = .returned (T ns) ∧ w' = ((w.alloc (TB ns)).alloc (TB ns)).alloc (TB ns) := by
  go_enter Try.func7, Try.ntmps7
  go_wp2_with (go_at_call 9; refine (add_any ns _ h0 h1).mono ?_; rintro e w' ⟨rfl, rfl⟩)
  exact bodyPost_ret (v := T ns) (by simp [results, Try.results7, go_sem]) rfl ⟨rfl, rfl⟩

end Go.Proofs.Qxb6614823a

/-
  session.state, service.ZZstate, zzStateAt, zzPhase, each by a contract.
-/
import Derived.Test.Qxb6614823aState
namespace Go.Proofs.Qxb6614823a
open Go.RowKit Go.MuLone

/-- The four texts. -/
def sOpened : ByteArray := { data := #[79, 112, 101, 110, 101, 100] }
def sOpening : ByteArray := { data := #[79, 112, 101, 110, 105, 110, 103, 32, 116, 105, 109, 101, 32, 112, 97, 115, 115, 101, 100, 58, 32, 119, 97, 105, 116, 105, 110, 103, 32, 102, 111, 114, 32, 116, 104, 101, 32, 100, 101, 115, 107, 32, 116, 111, 32, 111, 112, 101, 110, 32, 116, 104, 101, 32, 115, 101, 115, 115, 105, 111, 110] }
def sCutoff : ByteArray := { data := #[67, 117, 116, 45, 111, 102, 102, 32, 112, 97, 115, 115, 101, 100] }
def sTaking : ByteArray := { data := #[84, 97, 107, 105, 110, 103, 32, 102, 111, 114, 109, 115] }

set_option maxHeartbeats 800000 in
theorem state_open (b : Nat) (c o now : Int) (q : Addr) (W w : World) (hg : Grown W w) (hb : W.heap.size ≤ b) (hs : SessAt b c o (some q) w) :
    Calls Try.prog 10 #[.pointer (some ⟨b, 0, none⟩), T now] w fun e w' => e = .returned (.string sOpened) ∧ Grown W w' := by
  have hs1 := hs.alloc #[.int .u64 (now % 1000000000), .int .i64 (now / 1000000000), .pointer none] 30
  obtain ⟨c0, c1, c2, o0, o1, o2, mu, op, fz⟩ := hs1
  have k1 := (World.cell?_setCell_same _ ⟨b, 26, none⟩ (.int .i32 1) mu)
  go_enter Try.func10, Try.ntmps10
  go_wp2_with (first
    | (go_at_call 15; refine (lock_free muLib ⟨b, 26, none⟩ _ mu fz).mono ?_; rintro e w' ⟨rfl, rfl⟩)
    | (go_at_call 16; refine (unlock_held muLib ⟨b, 26, none⟩ _ k1 (by simp [fz])).mono ?_; rintro e w' ⟨rfl, rfl⟩))
  go_ret
  refine ⟨rfl, ?_⟩
  exact ((hg.alloc _ _).setCell hb _).setCell hb _

/-- Locked and unlocked, a session reads as before. -/
theorem SessAt.locked {b : Nat} {c o : Int} {pv : Option Addr} {w : World} (h : SessAt b c o pv w) : SessAt b c o pv ((w.setCell ⟨b, 26, none⟩ (.int .i32 1)).setCell ⟨b, 26, none⟩ (.int .i32 0)) := by
  obtain ⟨c0, c1, c2, o0, o1, o2, mu, op, fz⟩ := h
  have k1 := (World.cell?_setCell_same _ ⟨b, 26, none⟩ (.int .i32 1) mu)
  constructor
  · rw [World.cell?_setCell_other _ _ _ _ (by simp), World.cell?_setCell_other _ _ _ _ (by simp)]; exact c0
  · rw [World.cell?_setCell_other _ _ _ _ (by simp), World.cell?_setCell_other _ _ _ _ (by simp)]; exact c1
  · rw [World.cell?_setCell_other _ _ _ _ (by simp), World.cell?_setCell_other _ _ _ _ (by simp)]; exact c2
  · rw [World.cell?_setCell_other _ _ _ _ (by simp), World.cell?_setCell_other _ _ _ _ (by simp)]; exact o0
  · rw [World.cell?_setCell_other _ _ _ _ (by simp), World.cell?_setCell_other _ _ _ _ (by simp)]; exact o1
  · rw [World.cell?_setCell_other _ _ _ _ (by simp), World.cell?_setCell_other _ _ _ _ (by simp)]; exact o2
  · exact World.cell?_setCell_same _ _ _ k1
  · rw [World.cell?_setCell_other _ _ _ _ (by simp), World.cell?_setCell_other _ _ _ _ (by simp)]; exact op
  · simp [fz]

/-- At block d lies the instant now. -/
structure TimeAt (d : Nat) (now : Int) (w : World) : Prop where
  t0 : w.cell? ⟨d, 0, none⟩ = some (.int .u64 (now % 1000000000))
  t1 : w.cell? ⟨d, 1, none⟩ = some (.int .i64 (now / 1000000000))
  t2 : w.cell? ⟨d, 2, none⟩ = some (.pointer none)

theorem TimeAt.locked {d b : Nat} {now : Int} {w : World} (h : TimeAt d now w) : TimeAt d now ((w.setCell ⟨b, 26, none⟩ (.int .i32 1)).setCell ⟨b, 26, none⟩ (.int .i32 0)) := by
  obtain ⟨t0, t1, t2⟩ := h
  constructor
  · rw [World.cell?_setCell_other _ _ _ _ (by simp), World.cell?_setCell_other _ _ _ _ (by simp)]; exact t0
  · rw [World.cell?_setCell_other _ _ _ _ (by simp), World.cell?_setCell_other _ _ _ _ (by simp)]; exact t1
  · rw [World.cell?_setCell_other _ _ _ _ (by simp), World.cell?_setCell_other _ _ _ _ (by simp)]; exact t2

theorem TimeAt.made (now : Int) (w : World) : TimeAt w.heap.size now (w.alloc (TB now)) := by
  constructor <;> simp [go_sem]

theorem TimeAt.lt {d : Nat} {now : Int} {w : World} (h : TimeAt d now w) : d < w.heap.size := World.block_lt_of_cell? _ _ h.t0

theorem TimeAt.alloc {d : Nat} {now : Int} {w : World} (h : TimeAt d now w) (cs : Array Value) (t : TypeId) : TimeAt d now (w.alloc (.cells cs t)) := by
  have hl := h.lt
  constructor
  · rw [World.cell?_alloc_past _ _ _ hl]; exact h.t0
  · rw [World.cell?_alloc_past _ _ _ hl]; exact h.t1
  · rw [World.cell?_alloc_past _ _ _ hl]; exact h.t2

theorem SessAt.drew {b : Nat} {c o : Int} {pv : Option Addr} {w : World} (h : SessAt b c o pv w) : SessAt b c o pv w.drew := ⟨h.c0, h.c1, h.c2, h.o0, h.o1, h.o2, h.mu, h.op, h.fz⟩
theorem TimeAt.drew {d : Nat} {now : Int} {w : World} (h : TimeAt d now w) : TimeAt d now w.drew := ⟨h.t0, h.t1, h.t2⟩

set_option maxHeartbeats 800000 in
theorem state_shut1 (b : Nat) (c o now : Int) (W w : World) (hg : Grown W w) (hb : W.heap.size ≤ b) (hs : SessAt b c o none w) (ho : ¬ now < o) :
    Calls Try.prog 10 #[.pointer (some ⟨b, 0, none⟩), T now] w fun e w' => e = .returned (.string sOpening) ∧ Grown W w' := by
  have hs1 := hs.alloc #[.int .u64 (now % 1000000000), .int .i64 (now / 1000000000), .pointer none] 30
  have ht1 := TimeAt.made now w
  have hs2 := hs1.locked
  have ht2 := ht1.locked (b := b)
  have hg2 : Grown W _ := ((hg.alloc #[.int .u64 (now % 1000000000), .int .i64 (now / 1000000000), .pointer none] 30).setCell (a := ⟨b, 26, none⟩) hb (.int .i32 1)).setCell (a := ⟨b, 26, none⟩) hb (.int .i32 0)
  have mu := hs1.mu
  have op1 := hs1.op
  have fz := hs1.fz
  have k1 := (World.cell?_setCell_same _ ⟨b, 26, none⟩ (.int .i32 1) mu)
  clear hs hs1 ht1
  go_enter Try.func10, Try.ntmps10
  go_wp2_with (first
    | (go_at_call 15; refine (lock_free muLib ⟨b, 26, none⟩ _ mu fz).mono ?_; rintro e w' ⟨rfl, rfl⟩)
    | (go_at_call 16; refine (unlock_held muLib ⟨b, 26, none⟩ _ k1 (by simp [fz])).mono ?_; rintro e w2 ⟨rfl, hw2⟩; rw [← hw2] at hs2 ht2 hg2; clear hw2 k1 mu op1 fz; obtain ⟨c0, c1, c2, o0, o1, o2, mu, op, fz⟩ := hs2; obtain ⟨t0, t1, t2⟩ := ht2))
  have hd : decide (now < o) = false := by simpa using ho
  have bl : b < w2.heap.size := World.block_lt_of_cell? _ _ o0
  have dl : w.heap.size < w2.heap.size := World.block_lt_of_cell? _ _ t0
  have bl1 : b < w2.heap.size + 1 := by omega
  have dl1 : w.heap.size < w2.heap.size + 1 := by omega
  go_region_held3 (fun w' => w'.cell? ⟨b, 22, none⟩ = some (.int .u64 (o % 1000000000)) ∧ w'.cell? ⟨b, 23, none⟩ = some (.int .i64 (o / 1000000000)) ∧ w'.cell? ⟨b, 24, none⟩ = some (.pointer none) ∧ w'.cell? ⟨w.heap.size, 0, none⟩ = some (.int .u64 (now % 1000000000)) ∧ w'.cell? ⟨w.heap.size, 1, none⟩ = some (.int .i64 (now / 1000000000)) ∧ w'.cell? ⟨w.heap.size, 2, none⟩ = some (.pointer none)) (simp [go_sem, World.cell?_alloc_past, *])
    (first | (go_at_call 17; refine (before_any now o _).mono ?_; rintro e w' ⟨rfl, rfl⟩))
  go_wp2
  go_ret
  exact ⟨rfl, ((hg2.alloc _ _).alloc _ _).drew⟩

set_option maxHeartbeats 800000 in
theorem state_shut2 (b : Nat) (c o now : Int) (W w : World) (hg : Grown W w) (hb : W.heap.size ≤ b) (hs : SessAt b c o none w) (ho : now < o) :
    Calls Try.prog 10 #[.pointer (some ⟨b, 0, none⟩), T now] w fun e w' => e = .returned (.string (if now < c then sTaking else sCutoff)) ∧ Grown W w' := by
  have hs1 := hs.alloc #[.int .u64 (now % 1000000000), .int .i64 (now / 1000000000), .pointer none] 30
  have ht1 := TimeAt.made now w
  have hs2 := hs1.locked
  have ht2 := ht1.locked (b := b)
  have hg2 : Grown W _ := ((hg.alloc #[.int .u64 (now % 1000000000), .int .i64 (now / 1000000000), .pointer none] 30).setCell (a := ⟨b, 26, none⟩) hb (.int .i32 1)).setCell (a := ⟨b, 26, none⟩) hb (.int .i32 0)
  have mu := hs1.mu
  have op1 := hs1.op
  have fz := hs1.fz
  have k1 := (World.cell?_setCell_same _ ⟨b, 26, none⟩ (.int .i32 1) mu)
  clear hs hs1 ht1
  go_enter Try.func10, Try.ntmps10
  go_wp2_with (first
    | (go_at_call 15; refine (lock_free muLib ⟨b, 26, none⟩ _ mu fz).mono ?_; rintro e w' ⟨rfl, rfl⟩)
    | (go_at_call 16; refine (unlock_held muLib ⟨b, 26, none⟩ _ k1 (by simp [fz])).mono ?_; rintro e w2 ⟨rfl, hw2⟩; rw [← hw2] at hs2 ht2 hg2; clear hw2 k1 mu op1 fz; have hs3 := ((hs2.alloc #[.int .u64 (now % 1000000000), .int .i64 (now / 1000000000), .pointer none] 30).alloc #[.int .u64 (o % 1000000000), .int .i64 (o / 1000000000), .pointer none] 30).drew; have ht3 := ((ht2.alloc #[.int .u64 (now % 1000000000), .int .i64 (now / 1000000000), .pointer none] 30).alloc #[.int .u64 (o % 1000000000), .int .i64 (o / 1000000000), .pointer none] 30).drew; obtain ⟨c0, c1, c2, o0, o1, o2, mu, op, fz⟩ := hs2; obtain ⟨t0, t1, t2⟩ := ht2))
  have hd : decide (now < o) = true := by simpa using ho
  have bl : b < w2.heap.size := World.block_lt_of_cell? _ _ o0
  have dl : w.heap.size < w2.heap.size := World.block_lt_of_cell? _ _ t0
  have bl1 : b < w2.heap.size + 1 := by omega
  have dl1 : w.heap.size < w2.heap.size + 1 := by omega
  go_region_held3 (fun w' => w'.cell? ⟨b, 22, none⟩ = some (.int .u64 (o % 1000000000)) ∧ w'.cell? ⟨b, 23, none⟩ = some (.int .i64 (o / 1000000000)) ∧ w'.cell? ⟨b, 24, none⟩ = some (.pointer none) ∧ w'.cell? ⟨w.heap.size, 0, none⟩ = some (.int .u64 (now % 1000000000)) ∧ w'.cell? ⟨w.heap.size, 1, none⟩ = some (.int .i64 (now / 1000000000)) ∧ w'.cell? ⟨w.heap.size, 2, none⟩ = some (.pointer none)) (simp [go_sem, World.cell?_alloc_past, *])
    (first | (go_at_call 17; refine (before_any now o _).mono ?_; rintro e w' ⟨rfl, rfl⟩))
  have hg3 : Grown W _ := ((hg2.alloc #[.int .u64 (now % 1000000000), .int .i64 (now / 1000000000), .pointer none] 30).alloc #[.int .u64 (o % 1000000000), .int .i64 (o / 1000000000), .pointer none] 30).drew
  clear c0 c1 c2 o0 o1 o2 mu op fz t0 t1 t2 bl dl bl1 dl1
  obtain ⟨w3, hw3⟩ : ∃ w3, w3 = ((w2.alloc (TB now)).alloc (TB o)).drew := ⟨_, rfl⟩
  rw [← hw3] at hs3 ht3 hg3 ⊢
  clear hw3 hg2
  obtain ⟨c0, c1, c2, o0, o1, o2, mu, op, fz⟩ := hs3
  obtain ⟨t0, t1, t2⟩ := ht3
  have bl : b < w3.heap.size := World.block_lt_of_cell? _ _ o0
  have dl : w.heap.size < w3.heap.size := World.block_lt_of_cell? _ _ t0
  have bl1 : b < w3.heap.size + 1 := by omega
  have dl1 : w.heap.size < w3.heap.size + 1 := by omega
  by_cases hc : now < c
  · have he : decide (now < c) = true := by simpa using hc
    go_wp2
    go_region_held3 (fun w' => w'.cell? ⟨b, 19, none⟩ = some (.int .u64 (c % 1000000000)) ∧ w'.cell? ⟨b, 20, none⟩ = some (.int .i64 (c / 1000000000)) ∧ w'.cell? ⟨b, 21, none⟩ = some (.pointer none) ∧ w'.cell? ⟨w.heap.size, 0, none⟩ = some (.int .u64 (now % 1000000000)) ∧ w'.cell? ⟨w.heap.size, 1, none⟩ = some (.int .i64 (now / 1000000000)) ∧ w'.cell? ⟨w.heap.size, 2, none⟩ = some (.pointer none)) (simp [go_sem, World.cell?_alloc_past, *])
      (first | (go_at_call 17; refine (before_any now c _).mono ?_; rintro e w' ⟨rfl, rfl⟩))
    go_wp2
    go_ret
    exact ⟨rfl, ((hg3.alloc _ _).alloc _ _).drew⟩
  · have he : decide (now < c) = false := by simpa using hc
    go_wp2
    go_region_held3 (fun w' => w'.cell? ⟨b, 19, none⟩ = some (.int .u64 (c % 1000000000)) ∧ w'.cell? ⟨b, 20, none⟩ = some (.int .i64 (c / 1000000000)) ∧ w'.cell? ⟨b, 21, none⟩ = some (.pointer none) ∧ w'.cell? ⟨w.heap.size, 0, none⟩ = some (.int .u64 (now % 1000000000)) ∧ w'.cell? ⟨w.heap.size, 1, none⟩ = some (.int .i64 (now / 1000000000)) ∧ w'.cell? ⟨w.heap.size, 2, none⟩ = some (.pointer none)) (simp [go_sem, World.cell?_alloc_past, *])
      (first | (go_at_call 17; refine (before_any now c _).mono ?_; rintro e w' ⟨rfl, rfl⟩))
    go_wp2
    go_ret
    exact ⟨rfl, ((hg3.alloc _ _).alloc _ _).drew⟩

/-- The state of a session that is not opened. -/
def stShut (c o now : Int) : ByteArray := if now < o then (if now < c then sTaking else sCutoff) else sOpening

theorem state_shut (b : Nat) (c o now : Int) (W w : World) (hg : Grown W w) (hb : W.heap.size ≤ b) (hs : SessAt b c o none w) :
    Calls Try.prog 10 #[.pointer (some ⟨b, 0, none⟩), T now] w fun e w' => e = .returned (.string (stShut c o now)) ∧ Grown W w' := by
  by_cases ho : now < o
  · have := state_shut2 b c o now W w hg hb hs ho
    unfold stShut; rw [if_pos ho]; exact this
  · have := state_shut1 b c o now W w hg hb hs ho
    unfold stShut; rw [if_neg ho]; exact this

set_option maxHeartbeats 800000 in
/-- service.ZZstate. -/
theorem zzstate_shut (b : Nat) (c o now : Int) (W w : World) (hg : Grown W w) (hb : W.heap.size ≤ b) (hs : SessAt b c o none w) :
    Calls Try.prog 8 #[.pointer (some ⟨b, 0, none⟩), T now] w fun e w' => e = .returned (.string (stShut c o now)) ∧ Grown W w' := by
  have hs1 := hs.alloc #[.int .u64 (now % 1000000000), .int .i64 (now / 1000000000), .pointer none] 30
  have hg1 := hg.alloc #[.int .u64 (now % 1000000000), .int .i64 (now / 1000000000), .pointer none] 30
  go_enter Try.func8, Try.ntmps8
  go_wp2_with (go_at_call 10; refine (state_shut b c o now W _ hg1 hb hs1).mono ?_; rintro e w' ⟨rfl, hg2⟩)
  go_ret
  exact ⟨rfl, hg2⟩

set_option maxHeartbeats 800000 in
theorem zzstate_open (b : Nat) (c o now : Int) (q : Addr) (W w : World) (hg : Grown W w) (hb : W.heap.size ≤ b) (hs : SessAt b c o (some q) w) :
    Calls Try.prog 8 #[.pointer (some ⟨b, 0, none⟩), T now] w fun e w' => e = .returned (.string sOpened) ∧ Grown W w' := by
  have hs1 := hs.alloc #[.int .u64 (now % 1000000000), .int .i64 (now / 1000000000), .pointer none] 30
  have hg1 := hg.alloc #[.int .u64 (now % 1000000000), .int .i64 (now / 1000000000), .pointer none] 30
  go_enter Try.func8, Try.ntmps8
  go_wp2_with (go_at_call 10; refine (state_open b c o now q W _ hg1 hb hs1).mono ?_; rintro e w' ⟨rfl, hg2⟩)
  go_ret
  exact ⟨rfl, hg2⟩
end Go.Proofs.Qxb6614823a

/-
  THE ROW AND THE TIED CARD of FnLevelStringAgreesWithNewOutcome: the listed table is opened, the walk gives true, the card is closed by the given tie. The frame follows the guide's worked text on a listed map; the witness starts in the heap that the door's own run leaves.
-/
import Derived.Test.Qxb6614862aDoorRows
import Derived.Test.Qxb6614862aDoorTie
import Derived.Test.Qxb6614862aDoorCards
import Derived.Test.Qxb6614862aDoorLaw
import Derived.ProofKit
import Derived.LaidMore
import Derived.OpenShut
import Derived.OpenVars
import Derived.ChangeVars
import Derived.ChangeOld
import Derived.Below
import Derived.Stop.Joined
import Derived.SevenTiedAt
namespace Go.Proofs.Qxb6614862aDoor
open Go.ChangeShapes Go.WideShapes Go.ChangeAt Go.RowKit

theorem own : ownKnob Tryd.prog.godebug = none := by kernel_rfl
theorem laidOut : laidOutB Tryd.prog = true := by kernel_rfl
theorem gNames : Tryd.prog.globalNamed Rows.fnLevelStringAgreesWithNewOutcomeSpec.vars.head! = some 0 := by kernel_rfl
theorem tNames : (Tryd.prog.globals[0]?).map (·.type) = some 39 := by kernel_rfl
theorem cells9 : Tryd.prog.cellsOf 9 = 1 := by kernel_rfl
theorem cells39 : Tryd.prog.cellsOf 39 = 6 := by kernel_rfl

theorem door_met (os : Os) (args : Array Value) : laidMetH Tryd.prog Rows.fnLevelStringAgreesWithNewOutcomeRow.laid ((World.doorLaid Tryd.prog 14 os).forCall (fun _ _ => 0) ⟨#[], args, []⟩).memory :=
  laidMetH_of_parts3 (fuel := 8) (laidMet_of_run' 8 (by kernel_rfl) (by kernel_rfl)) (by kernel_rfl) (by kernel_rfl)

theorem str_eq {s : ByteArray} {l : List UInt8} (h : s.data.toList = l) : s = { data := l.toArray } := by
  cases s with
  | mk d => simp at h; subst h; simp

/-- WHAT THE CONDITION GIVES THE WALK: the table's six cells. -/
theorem of_laid {W : World} (h : laidMetH Tryd.prog Rows.fnLevelStringAgreesWithNewOutcomeRow.laid W) :
    W.cell? ⟨0, 0, none⟩ = some (.string nm0) ∧ W.cell? ⟨0, 1, none⟩ = some (.string nm1) ∧ W.cell? ⟨0, 2, none⟩ = some (.string nm2) ∧
    W.cell? ⟨0, 3, none⟩ = some (.string nm3) ∧ W.cell? ⟨0, 4, none⟩ = some (.string nm4) ∧ W.cell? ⟨0, 5, none⟩ = some (.string nm5) := by
  rw [MakeChecks.laidMetH_plain _ _ _ (by kernel_rfl)] at h
  obtain ⟨ps, ⟨g0, t0, cs0, f0, p0, q0, hg0, ht0, hv0, hd0, _, _⟩, _⟩ := h
  obtain rfl := Option.some.inj (gNames.symm.trans hg0)
  obtain rfl := Option.some.inj (tNames.symm.trans ht0)
  obtain ⟨xs, m1, hcs, hx1, hlen, hn, hel⟩ := DataW.trod_array Tryd.underlying39 hd0
  simp only [Prod.mk.injEq, Rows.laid_example_com_zoneprobe_zoneprobe_internal_report_levelNames, DataW.agg.injEq] at hx1
  have key : ∀ (i : Nat) (L : List UInt8), i < 6 → (xs.map (fun x => x.fst))[i]? = some (.lit (.string L)) → W.cell? ⟨0, i, none⟩ = some (.string { data := L.toArray }) := by
    intro i L hi hL
    have he := hel i hi
    rw [cells9, Nat.mul_one] at he
    rw [List.getElem?_map] at hL
    cases hxi : xs[i]? with
    | none => rw [hxi] at hL; cases hL
    | some x =>
      rw [hxi] at he hL
      obtain ⟨str, hc, hx, _⟩ := DataW.trod_string Tryd.underlying9 he
      have h1 : DataW.lit (H := Unit) (.string str.data.toList) = .lit (.string L) := by
        rw [hx] at hL
        exact Option.some.inj hL
      injection h1 with h1
      injection h1 with h1
      rw [World.var?_cell hg0 hv0 i, ← str_eq h1]
      have h2 : (cs0.toList.drop i)[0]? = some (.string str) := by
        have h3 : ((cs0.toList.drop i).take 1)[0]? = some (.string str) := by rw [hc]; rfl
        simpa using h3
      simpa using h2
  have hx2 := hx1.1.symm
  exact ⟨key 0 _ (by decide) (by rw [hx2]; rfl), key 1 _ (by decide) (by rw [hx2]; rfl), key 2 _ (by decide) (by rw [hx2]; rfl), key 3 _ (by decide) (by rw [hx2]; rfl), key 4 _ (by decide) (by rw [hx2]; rfl), key 5 _ (by decide) (by rw [hx2]; rfl)⟩

set_option maxRecDepth 100000 in
theorem lifted (os : Os) (started : os.Started) (H : Type) (enc : TypeId × Value → H) :
    ReturnsInHanded {} Tryd.checked os 4 .any (fun w args => (Rows.fnLevelStringAgreesWithNewOutcomeSpec.pre enc Tryd.prog Tryd.f4 [] false w args ∧ laidMetH Tryd.prog Rows.fnLevelStringAgreesWithNewOutcomeRow.laid w) ∧ sizedMet enc Tryd.prog Tryd.f4 (OpenSpec.ofChange Rows.fnLevelStringAgreesWithNewOutcomeSpec) false w args)
      (Rows.fnLevelStringAgreesWithNewOutcomeSpec.post enc Tryd.prog Tryd.f4 false true false false) := by
  refine returnsInHanded_of_change_and (C := Tryd.checked) (X := fun w _ => laidMetH Tryd.prog Rows.fnLevelStringAgreesWithNewOutcomeRow.laid w) (fun _ _ _ hh h => h.of_heap hh) own started (by kernel_rfl) Tryd.func4
    (ChangeSpec.witness_shaped (enc := enc) (C := Tryd.checked) (os := os) (X := fun w _ => laidMetH Tryd.prog Rows.fnLevelStringAgreesWithNewOutcomeRow.laid w) false (World.doorLaid Tryd.prog 14 os) #[.int .i64 0] 8 rfl (World.shaped_of_RefB (by kernel_rfl) (by kernel_rfl)) (by kernel_rfl) (by kernel_rfl) (by kernel_rfl) (door_met os _)) ?_
  intro W base args ds gs before hval0 hW _ _ hL _
  have hval : ∀ (j : Nat) t v, Tryd.f4.params[j]? = some t → args[j]? = some v → Value.okWide Tryd.prog W .any base t v := hval0
  have hW' := hW
  obtain ⟨p, q, hA0, hV0, rfl, hfz, hnd⟩ := hW
  have hA : DataW.TrodAll enc Tryd.prog W 0 (fun _ => true) true Tryd.f4.params.toList args.toList ds p := hA0
  have hV : DataW.TrodVars enc Tryd.prog W (fun _ => true) Rows.fnLevelStringAgreesWithNewOutcomeSpec.vars gs q := hV0
  rw [Tryd.params4] at hA hval
  obtain ⟨v0, d0, rfl, rfl, h0⟩ := trodAll_one hA
  obtain ⟨a0, rfl, rfl, rfl, w0⟩ := open_int Tryd.underlying3 (hval 0 3 v0 rfl rfl) h0
  obtain ⟨g, t, cs, fuel, d, p', rfl, hg, ht, hvar, hd, rfl⟩ := trodVars_one hV
  obtain ⟨c0, c1, c2, c3, c4, c5⟩ := of_laid hL
  clear hA0 hV0 hval0
  refine (walk a0 W c0 c1 c2 c3 c4 c5).mono fun e W' ⟨he, bel⟩ => ?_
  subst he
  exact ⟨_, rfl, _, _, _, [], [], _, hW', trodAll_mk1 (shut_bool Tryd.underlying4 _), trodAll_mk1 (shut_int Tryd.underlying3 w0), Below.trodVars laidOut bel (by kernel_rfl) hV, bel.frame _, fun h => by cases h⟩

theorem row_holds : Rows.FnLevelStringAgreesWithNewOutcomeSaid :=
  OpenClaim.holds_of_wide 4 Tryd.f4 rfl rfl rfl rfl rfl rfl rfl ⟨rfl, rfl, rfl, rfl, rfl⟩ rfl rfl rfl rfl rfl (by kernel_rfl) Tryd.func4 (by kernel_rfl)
    (of_decide_eq_true (by kernel_rfl)) (by unfold Func.isWrapper; first | (rw [if_pos (by decide +kernel)]; kernel_rfl) | (rw [if_neg (by decide +kernel)]; exact ⟨rfl, rfl⟩))
    (fun os started H enc _ => lifted os started H enc)

/-- ████ THE TIED CARD ████ -/
theorem card_holds : Rows.FnLevelStringAgreesWithNewOutcomeCardSaid :=
  Claim7.holds_tied_plain_at .later [] [.widerDeep] true (true, "fb91b8c2f64fd4a24329152bb435f44aad0c35ff2269db208c0926864648d7ba") false
    row_holds (fun _ h => by cases h) (by kernel_rfl) (fun _ h => by cases h) fnLevelStringAgreesWithNewOutcome_row_tie rfl ⟨rfl, rfl⟩ (by kernel_rfl) rfl
    (fun f fn hf hfn => by
      obtain rfl : f = 4 := Option.some.inj ((show Tryd.prog.funcNamed Rows.fnLevelStringAgreesWithNewOutcomeRow.func = some 4 by kernel_rfl).symm.trans hf) |>.symm
      obtain rfl : fn = Tryd.f4 := (Option.some.inj (Tryd.func4.symm.trans hfn)).symm
      exact ⟨by kernel_rfl, fun j t ht => by
        rw [Tryd.params4] at ht
        have hm : t ∈ [3] := by simpa using Array.mem_of_getElem? ht
        have hall : ([3].all fun u => !Tryd.prog.wantsStandIn u) = true := by kernel_rfl
        exact (show Tryd.prog.wantsStandIn t = false by simpa using List.all_eq_true.1 hall t hm)⟩)
    (by kernel_rfl)
#print axioms card_holds
end Go.Proofs.Qxb6614862aDoor

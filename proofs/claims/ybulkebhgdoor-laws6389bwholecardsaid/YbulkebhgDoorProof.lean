/-
  THE PROOF OF 'Rows.LawS6389BWholeCardSaid': the row (its listed tables opened; a witness that starts in the heap which the door's own run leaves), then the card by the builder's one call. After the worked examples Mapy and Toyas. The walk: YbulkebhgDoorS.lean.
-/
import Derived.Test.YbulkebhgDoorS
import Derived.Test.YbulkebhgDoorTie
import Derived.Test.YbulkebhgDoorCards
import Derived.WalkKit
import Derived.ProofKit
import Derived.OpenShut
import Derived.ShutString
import Derived.ChangeOld
import Derived.Below
import Derived.LaidMore
import Derived.LaidHandle
import Derived.Stop.Joined
import Derived.SevenTiedAt
namespace Go.Proofs.YbulkebhgDoor
open Go.ChangeShapes Go.WideShapes Go.ChangeAt Go.RowKit
open Go.ChangeMaps (open_string shut_string)
set_option linter.unusedVariables false

theorem own : ownKnob Ybad.prog.godebug = none := by kernel_rfl
theorem gT : Ybad.prog.globalNamed tabName = some 3 := by kernel_rfl
theorem tT : (Ybad.prog.globals[3]?).map (·.type) = some 78 := by kernel_rfl
theorem c33 : Ybad.prog.cellsOf 33 = 1 := by kernel_rfl
theorem c78 : Ybad.prog.cellsOf 78 = 20 := by kernel_rfl

/-- The door's own heap meets the row's condition: closed facts. -/
theorem door_met (os : Os) (args : Array Value) : laidMetH Ybad.prog Rows.lawS6389BWholeRow.laid ((World.doorLaid Ybad.prog 400 os).forCall (fun _ _ => 0) ⟨#[], args, []⟩).memory :=
  laidMetH_of_parts3 (fuel := 8) (laidMet_of_run' 8 (by kernel_rfl) (by kernel_rfl)) (by kernel_rfl) (by kernel_rfl)

/-- What the condition gives the walk: the table of powers of ten. -/
theorem of_laid {W : World} (h : laidMetH Ybad.prog Rows.lawS6389BWholeRow.laid W) : Tab W := by
  rw [MakeChecks.laidMetH_plain _ _ _ (by kernel_rfl)] at h
  obtain ⟨ps, ⟨g0, t0, cs0, f0, p0, q0, hg0, ht0, hv0, hd0, ⟨g1, t1, cs1, f1, p1, q1, hg1, ht1, hv1, hd1, ⟨g2, t2, cs2, f2, p2, q2, hg2, ht2, hv2, hd2, _, _⟩, _⟩, _⟩, _, _⟩ := h
  obtain rfl := Option.some.inj (gT.symm.trans hg2)
  obtain rfl := Option.some.inj (tT.symm.trans ht2)
  have hd : DataW.trod (fun _ => ()) Ybad.prog W 0 (fun _ => true) false f2 78 cs2.toList = some (Lib.tabData .u64 Lib.pow10Tab, p2) := hd2
  have hc := Lib.cells_of_tab Ybad.underlying78 Ybad.underlying33 c33 c78 hd
  unfold Tab Lib.TabIs
  rw [← hc]
  exact hv2

set_option maxRecDepth 100000 in
theorem lifted (os : Os) (started : os.Started) (H : Type) (enc : TypeId × Value → H) :
    ReturnsInHanded {} Ybad.checked os 3 .any (fun w args => (Rows.lawS6389BWholeSpec.pre enc Ybad.prog Ybad.f3 [] false w args ∧ laidMetH Ybad.prog Rows.lawS6389BWholeRow.laid w) ∧ sizedMet enc Ybad.prog Ybad.f3 (OpenSpec.ofChange Rows.lawS6389BWholeSpec) false w args)
      (Rows.lawS6389BWholeSpec.post enc Ybad.prog Ybad.f3 false true false false) := by
  refine returnsInHanded_of_change_and (C := Ybad.checked) (X := fun w _ => laidMetH Ybad.prog Rows.lawS6389BWholeRow.laid w) (fun _ _ _ hh h => h.of_heap hh) own started (by kernel_rfl) Ybad.func3
    (ChangeSpec.witness_shaped (enc := enc) (C := Ybad.checked) (os := os) (X := fun w _ => laidMetH Ybad.prog Rows.lawS6389BWholeRow.laid w) false (World.doorLaid Ybad.prog 400 os) #[.bool false, .int .i64 0, .string ByteArray.empty] 8 rfl (World.shaped_of_RefB (by kernel_rfl) (by kernel_rfl)) (by kernel_rfl) (by kernel_rfl) (by kernel_rfl) (door_met os _)) ?_
  intro W base args ds gs before hval0 hW _ _ hL _
  have hval : ∀ (j : Nat) t v, Ybad.f3.params[j]? = some t → args[j]? = some v → Value.okWide Ybad.prog W .any base t v := hval0
  have hW' := hW
  obtain ⟨p, q, hA0, hV, rfl, hfz, hnd⟩ := hW
  have hA : DataW.TrodAll enc Ybad.prog W 0 (fun _ => true) true Ybad.f3.params.toList args.toList ds p := hA0
  rw [Ybad.params3] at hA hval
  obtain ⟨v0, vs0, d0, ds0, p0, q0, hargs, rfl, rfl, h0, r0⟩ := trodAll_cons hA
  obtain ⟨v1, vs1, d1, ds1, p1, q1, rfl, rfl, rfl, h1, r1⟩ := trodAll_cons r0
  obtain ⟨v2, vs2, d2, ds2, p2, q2, rfl, rfl, rfl, h2, r2⟩ := trodAll_cons r1
  obtain ⟨rfl, rfl, rfl⟩ := trodAll_nil r2
  obtain rfl : args = #[v0, v1, v2] := by cases args; simp_all
  obtain ⟨rfl, rfl⟩ := trodVars_none hV
  obtain ⟨a0, rfl, rfl, rfl⟩ := open_bool Ybad.underlying4 (hval 0 4 v0 rfl rfl) h0
  obtain ⟨a1, rfl, rfl, rfl, w1⟩ := open_int Ybad.underlying3 (hval 1 3 v1 rfl rfl) h1
  obtain ⟨a2, rfl, rfl, rfl, w2⟩ := open_string Ybad.underlying9 (hval 2 9 v2 rfl rfl) h2
  have hb : -9223372036854775808 ≤ a1 ∧ a1 ≤ 9223372036854775807 := by
    have h := w1
    simp [Lit.wf, IntKind.min, IntKind.max, IntKind.signed, IntKind.bits] at h
    omega
  have hT := of_laid hL
  clear hA0 hval0
  refine (walkL a0 a1 a2 W hb.1 hb.2 hT).mono fun e W' ⟨he, os', hr⟩ => ?_
  have bel := hr.below
  subst he
  exact ⟨_, rfl, _, _, _, [], _, [], hW', trodAll_mk1 (shut_bool Ybad.underlying4 _), (trodAll_cons_mk (shut_bool Ybad.underlying4 _) (trodAll_cons_mk (shut_int Ybad.underlying3 w1) (trodAll_cons_mk (shut_string Ybad.underlying9 w2) trodAll_mk0))), rfl, bel.frame _, fun h => by cases h⟩

/-- THE ROW. -/
theorem row_holds : Rows.LawS6389BWholeSaid :=
  OpenClaim.holds_of_wide 3 Ybad.f3 rfl rfl rfl rfl rfl rfl rfl ⟨rfl, rfl, rfl, rfl, rfl⟩ rfl rfl rfl rfl rfl (by kernel_rfl) Ybad.func3 (by kernel_rfl)
    (of_decide_eq_true (by kernel_rfl)) (by unfold Func.isWrapper; first | (rw [if_pos (by decide +kernel)]; kernel_rfl) | (rw [if_neg (by decide +kernel)]; exact ⟨rfl, rfl⟩))
    (fun os started H enc _ => lifted os started H enc)

theorem fnd : Ybad.prog.funcNamed Rows.lawS6389BWholeRow.func = some 3 := by kernel_rfl
theorem stand (t : TypeId) (h : t = 4 ∨ t = 3 ∨ t = 9) : Ybad.prog.wantsStandIn t = false := by
  rcases h with rfl | rfl | rfl <;> kernel_rfl

/-- ████ THE CARD ████ -/
theorem proved : Rows.LawS6389BWholeCardSaid :=
  Claim7.holds_tied_plain_at .later [] [.data, .data, .data] true (true, "4ac1967c291433f9edad456882f254cdeb567bbbae8d081880955a2dbd730b19") true
    row_holds (fun _ h => by cases h) (by kernel_rfl) (fun _ h => by cases h) lawS6389BWhole_row_tie rfl ⟨rfl, rfl⟩ (by kernel_rfl) rfl
    (fun f fn hf hfn => by
      obtain rfl : f = 3 := (Option.some.inj (fnd.symm.trans hf)).symm
      obtain rfl : fn = Ybad.f3 := (Option.some.inj (Ybad.func3.symm.trans hfn)).symm
      exact ⟨by kernel_rfl, fun j t ht => by
        rw [Ybad.params3] at ht
        refine stand t ?_
        rcases j with _ | _ | _ | j
        · exact .inl (by simpa using ht.symm)
        · exact .inr (.inl (by simpa using ht.symm))
        · exact .inr (.inr (by simpa using ht.symm))
        · simp at ht⟩)
    (by kernel_rfl)
#print axioms proved
end Go.Proofs.YbulkebhgDoor

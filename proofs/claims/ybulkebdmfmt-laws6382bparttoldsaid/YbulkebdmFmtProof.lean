/-
  SEAT b6382aF: THE TOLD AND TIED CARD OF LawS6382BPart. The walks: YbulkebdmFmtWalks.lean. After the guide's Caps texts (CapsTold, CapsTied): what reads the table out of 'laid', the shown start, the wrap, the builder's one call.
-/
import Derived.Test.YbulkebdmFmtWalks
import Derived.Test.YbulkebdmFmtTie
import Derived.Test.YbulkebdmFmtCards
import Derived.ProofKit
import Derived.Stop.JoinedAt
import Derived.Stop.JoinedTold
import Derived.Stop.LaidErr
import Derived.OpenVars
import Derived.ShutString
import Derived.OpenShut
import Derived.SevenTiedAt
namespace Go.Proofs.YbulkebdmFmt
open Go.ChangeShapes Go.WideShapes Go.ChangeAt Go.RowKit Go.Kit
open Go.ChangeMaps (open_string shut_string)
open Go.Extern.Stop Go.Stop Go.Extern

theorem own : ownKnob Ybaf.prog.godebug = none := by kernel_rfl
theorem laidOut : laidOutB Ybaf.pinned.checked.prog = true := by kernel_rfl
theorem stops : Ybaf.pinned.checked.prog.stops = ["fmt.Sprintf"] := by kernel_rfl
theorem stopKnobs : Ybaf.pinned.checked.prog.stopKnobs = [] := by kernel_rfl
theorem quiet (os : Os) : Stop.quiet Ybaf.pinned.checked.prog os := by
  intro k hk
  rw [stopKnobs] at hk
  cases hk

/-- The listed variable's name, off the given row. -/
def vname : String := Rows.lawS6382BPartSpec.vars.headD ""
theorem gN : Ybaf.prog.globalNamed vname = some 0 := by kernel_rfl
theorem gNType : (Ybaf.prog.globals[0]?).map (·.type) = some 29 := by kernel_rfl
theorem cells29 : Ybaf.prog.cellsOf 29 = 6 := by kernel_rfl
theorem cells9 : Ybaf.prog.cellsOf 9 = 1 := by kernel_rfl

def cells6 : Array Value := #[.string ⟨#[61]⟩, .string ⟨#[60, 62]⟩, .string ⟨#[60]⟩, .string ⟨#[60, 61]⟩, .string ⟨#[62]⟩, .string ⟨#[62, 61]⟩]

theorem str_of_trod {H : Type} {enc : TypeId × Value → H} {w : World} {base : Nat} {sp : Nat → Bool} {held : Bool} {fuel : Nat} {c : Value} {y : DataW H × List MemPlace}
    (h : DataW.trod enc Ybaf.prog w base sp held fuel 9 [c] = some y) : ∃ s : ByteArray, c = .string s ∧ y = (.lit (.string s.data.toList), []) := by
  obtain ⟨s, hc, hy, _⟩ := DataW.trod_string Ybaf.underlying9 h
  simp only [List.cons.injEq, and_true] at hc
  exact ⟨s, hc, hy⟩
theorem ba_of_list {s : ByteArray} {l : List UInt8} (h : s.data.toList = l) : s = ⟨l.toArray⟩ := by cases s; subst h; rfl

theorem cells_of_laid {W : World} (h : laidMet Ybaf.prog [(vname, Rows.laid_example_com_riffle_riffle_operatorNames)] W) : W.var? Ybaf.prog vname = some cells6 := by
  obtain ⟨ps, ⟨g, t, cs, fuel, p, q, hg, ht, hvar, hd, _, _⟩, _⟩ := h
  obtain rfl := Option.some.inj (gN.symm.trans hg)
  obtain rfl := Option.some.inj (gNType.symm.trans ht)
  rw [hvar]
  congr 1
  obtain ⟨l⟩ := cs
  cases fuel with
  | zero => simp [DataW.trod] at hd
  | succ fuel =>
    simp only [DataW.trod, Ybaf.underlying29, cells29, cells9] at hd
    split at hd
    · rename_i hl
      obtain ⟨c0, c1, c2, c3, c4, c5, rfl⟩ : ∃ c0 c1 c2 c3 c4 c5, l = [c0, c1, c2, c3, c4, c5] := by
        match l, hl with
        | [a, b, c, d, e, f], _ => exact ⟨a, b, c, d, e, f, rfl⟩
      have e : List.range 6 = [0, 1, 2, 3, 4, 5] := rfl
      rw [e] at hd
      simp only [Option.map_eq_some_iff, List.mapM_cons, List.mapM_nil, Option.bind_eq_bind, Option.bind_eq_some_iff, Option.pure_def, Option.some.injEq] at hd
      obtain ⟨xs, ⟨y0, h0, _, ⟨y1, h1, _, ⟨y2, h2, _, ⟨y3, h3, _, ⟨y4, h4, _, ⟨y5, h5, _, rfl, rfl⟩, rfl⟩, rfl⟩, rfl⟩, rfl⟩, rfl⟩, hx⟩ := hd
      obtain ⟨n0, rfl, rfl⟩ := str_of_trod h0
      obtain ⟨n1, rfl, rfl⟩ := str_of_trod h1
      obtain ⟨n2, rfl, rfl⟩ := str_of_trod h2
      obtain ⟨n3, rfl, rfl⟩ := str_of_trod h3
      obtain ⟨n4, rfl, rfl⟩ := str_of_trod h4
      obtain ⟨n5, rfl, rfl⟩ := str_of_trod h5
      simp [Rows.laid_example_com_riffle_riffle_operatorNames] at hx
      obtain ⟨⟨e0, e1, e2, e3, e4, e5⟩, _⟩ := hx
      rw [ba_of_list e0, ba_of_list e1, ba_of_list e2, ba_of_list e3, ba_of_list e4, ba_of_list e5]
      rfl
    · cases hd

theorem all_walk (F : Interp) (x : Int) (w : World) (hF : F.answers w.tape) (hvar : w.var? Ybaf.prog vname = some cells6) :
    Calls Ybaf.prog 3 #[.int .i64 x] w fun e w' => e = .returned (.bool true) ∧ Below w.heap.size w w' := by
  by_cases hx : x < 0 ∨ 6 ≤ x
  · exact walk_out F x w hF hx
  · rcases (show x = 0 ∨ x = 1 ∨ x = 2 ∨ x = 3 ∨ x = 4 ∨ x = 5 from by omega) with rfl | rfl | rfl | rfl | rfl | rfl
    · exact walk0 w (by simpa [cells6] using World.var?_cell gN hvar 0)
    · exact walk1 w (by simpa [cells6] using World.var?_cell gN hvar 1)
    · exact walk2 w (by simpa [cells6] using World.var?_cell gN hvar 2)
    · exact walk3 w (by simpa [cells6] using World.var?_cell gN hvar 3)
    · exact walk4 w (by simpa [cells6] using World.var?_cell gN hvar 4)
    · exact walk5 w (by simpa [cells6] using World.var?_cell gN hvar 5)

set_option maxRecDepth 100000 in
theorem t_lifted (os : Os) (started : os.Started) (H : Type) (enc : TypeId × Value → H) :
    ReturnsInTold none {} Ybaf.checked os 3 .any Input.okWide ((OpenSpec.ofChange Rows.lawS6382BPartSpec).preRow enc Ybaf.prog Ybaf.f3 [] false Rows.lawS6382BPartRow.laid)
      (fun F => ((OpenSpec.ofChange Rows.lawS6382BPartSpec).at F).post enc Ybaf.prog Ybaf.f3 false true false false) (aloneAtReturn Ybaf.prog) nothingAlways := by
  refine returnsInTold_of_row (C := Ybaf.checked) (s := OpenSpec.ofChange Rows.lawS6382BPartSpec) (by kernel_rfl) own started (by kernel_rfl) Ybaf.func3
    (OpenSpec.witness_stopped_at (enc := enc) (C := Ybaf.checked) false
      { World.holding Ybaf.prog os ⟨#[], #[], []⟩ with heap := (World.holding Ybaf.prog os ⟨#[], #[], []⟩).heap.modify 0 fun
        | .cells _ t frozen => .cells cells6 t frozen
        | o => o } #[.int .i64 0] rfl (by kernel_rfl) (by kernel_rfl) (by kernel_rfl)
      (OpenSpec.preRow_of_B rfl 8 (by kernel_rfl) (by kernel_rfl)
        (laidMet_of_run (ps := [.cell 0 0, .cell 0 1, .cell 0 2, .cell 0 3, .cell 0 4, .cell 0 5]) 8 (by kernel_rfl) (by kernel_rfl) (by kernel_rfl)))) ?_
  intro F W base args ds gs before _ hF hval0 hW _ _ _ hL _
  have hval : ∀ (j : Nat) t v, Ybaf.f3.params[j]? = some t → args[j]? = some v → Value.okWide Ybaf.prog W .any base t v := hval0
  have hW' := hW
  obtain ⟨p, q, hA0, hV, rfl, hfz, hnd⟩ := hW
  have hA : DataW.TrodAll enc Ybaf.prog W 0 (fun _ => true) true Ybaf.f3.params.toList args.toList ds p := hA0
  rw [Ybaf.params3] at hA hval
  obtain ⟨v0, d0, rfl, rfl, h0⟩ := trodAll_one hA
  obtain ⟨x, rfl, rfl, rfl, wx⟩ := open_int Ybaf.underlying3 (hval 0 3 v0 rfl rfl) h0
  have hvar := cells_of_laid hL
  obtain ⟨g, t, cs, fuel, d, pv, rfl, hg1, hg2, hg3, hg4, rfl⟩ := trodVars_one hV
  refine (all_walk F.told x W hF hvar).mono fun e W' ⟨he, bel⟩ => ?_
  subst he
  exact ⟨_, rfl, _, _, _, [], [], _, hW', trodAll_mk1 (shut_bool Ybaf.underlying4 _), trodAll_mk1 (shut_int Ybaf.underlying3 wx), Below.trodVars laidOut bel (by kernel_rfl) hV, bel.frame _, fun h => by cases h⟩

/-- THE STATEMENT. -/
theorem proved : Rows.LawS6382BPartToldSaid :=
  Claim7.holds_of_told_tied_any_at .later 3 Ybaf.f3 "fmt.Sprintf" [] [] _ _ _ _ _ (by kernel_rfl) rfl rfl rfl laidOut (by kernel_rfl) rfl ⟨rfl, rfl, rfl, rfl, rfl, rfl, rfl⟩ rfl rfl (by kernel_rfl) (by kernel_rfl) Ybaf.func3 (by kernel_rfl)
    (of_decide_eq_true (by kernel_rfl)) (of_decide_eq_true (by kernel_rfl)) stops.symm rfl stopKnobs.symm (by kernel_rfl)
    (by kernel_rfl) (by kernel_rfl) (by kernel_rfl) (by kernel_rfl) (by kernel_rfl) (by kernel_rfl) (by kernel_rfl) (by kernel_rfl) (by kernel_rfl) rfl (by kernel_rfl) rfl rfl
    rfl rfl
    rfl (by kernel_rfl) (by kernel_rfl) (by kernel_rfl) (by decide) (by kernel_rfl) lawS6382BPart_row_tie
    (OpenClaim.moreEntering_of (by kernel_rfl) (by kernel_rfl) (by kernel_rfl) (by kernel_rfl) (by kernel_rfl) (by kernel_rfl) (by kernel_rfl) (by kernel_rfl) (by kernel_rfl) (by kernel_rfl))
    ⟨_, WideRow.started_initial, quiet _⟩
    (fun os started _ H enc _ => t_lifted os started H enc)

#print axioms proved

end Go.Proofs.YbulkebdmFmt

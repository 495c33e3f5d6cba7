/-
  strconv.Itoa off the shelf's contract; (Length).String (function 5); the walk of LawS6389BWhole (function 3).
-/
import Derived.Test.YbulkebhgDoorI
import Derived.Test.YbulkebhgDoorShelf
namespace Go.Proofs.YbulkebhgDoor
open Go.RowKit
set_option linter.unusedSimpArgs false
set_option linter.unusedVariables false

/-! ### the table of powers of ten -/
/-- The table's name, as the given row lists it. -/
def tabName : String := ((Rows.lawS6389BWholeRow.laid[2]?).map (·.1)).getD ""
/-- In w the table of powers of ten holds what the row lists. -/
def Tab (w : World) : Prop := Lib.TabIs Ybad.prog w tabName .u64 Lib.pow10Tab
theorem Tab.rep {w0 w : World} {os : List Obj} (h : Tab w0) (hr : Rep w0 w os) : Tab w := by
  unfold Tab Lib.TabIs World.var? at *
  cases hg : Ybad.prog.globalNamed tabName with
  | none => simp [hg] at h
  | some g =>
    simp only [hg, Option.bind_some] at h ⊢
    have hlt : g < w0.heap.size := by
      rcases Nat.lt_or_ge g w0.heap.size with h' | h'
      · exact h'
      · rw [Array.getElem?_eq_none h'] at h; simp at h
    rw [hr.old hlt]
    exact h

/-- strconv.Itoa, by the shelf. -/
theorem itoa_any (n : Int) (w : World) (h0 : -9223372036854775808 ≤ n) (h1 : n ≤ 9223372036854775807) (ht : Tab w) :
    Calls Ybad.prog 8 #[.int .i64 n] w fun e w' => ∃ v, e = .returned v ∧ v = .string ⟨(Lib.itoa n).toArray⟩ ∧ ∃ os, Rep w w' os := by
  refine (Any.strconv_Itoa Ybad.laysItoa n h0 h1 w ht).mono ?_
  rintro e w' ⟨rfl, k, os, rfl⟩
  refine ⟨_, rfl, rfl, os.toList, ?_⟩
  refine ⟨rfl, rfl, rfl, ?_⟩
  simp [Sort.grow, World.drewN]

/-! ### runs -/
theorem info23 : (Ybad.prog.info? 23).map (fun i => (i.zero, i.size)) = some (some (.agg #[.bool false, .int .i64 0, .string ⟨#[]⟩]), 3) := by kernel_rfl
theorem zero23 : (Ybad.prog.info? 23).map (·.zero) = some (some (.agg #[.bool false, .int .i64 0, .string ⟨#[]⟩])) := by kernel_rfl
theorem size23 : (Ybad.prog.info? 23).map (·.size) = some 3 := by kernel_rfl
theorem len9 (w : World) (s : ByteArray) (ty : TypeId) : (Builtin.len_ #[9] ty #[.string s]).run Ybad.prog w = .ok (.int .i64 s.size) w := by
  simp [go_sem, Ybad.underlying9]
theorem field23 (w : World) (b i : Nat) (hi : i < 3) : (Instr.fieldAt 23 (.pointer (some ⟨b, 0, none⟩)) i).run Ybad.prog w = .ok (.pointer (some ⟨b, i, none⟩)) w := by
  have h : i = 0 ∨ i = 1 ∨ i = 2 := by omega
  rcases h with rfl | rfl | rfl <;> simp [go_sem, Ybad.underlying23]

theorem size_zero (s : ByteArray) (h : s.size = 0) : s = ⟨#[]⟩ := by
  cases s with
  | mk d => have : d.size = 0 := h
            rw [Array.size_eq_zero_iff.1 this]
theorem neq9 (s : ByteArray) (z : Bool) (hz : z = decide (s.size = 0)) (w : World) : (binOp .neq 9 (.string s) (.string ⟨#[]⟩)).run Ybad.prog w = .ok (.bool (!z)) w := by
  have e : (s.toList == (⟨#[]⟩ : ByteArray).toList) = z := by
    rw [hz, ByteArray.toList_eq, ByteArray.toList_eq]
    by_cases h : s.size = 0
    · rw [size_zero s h]; rfl
    · rw [decide_eq_false h]
      apply beq_eq_false_iff_ne.2
      intro e
      exact h (by show s.data.size = 0; rw [← Array.length_toList, e]; rfl)
  rw [binOp_string_neq, e]
  rfl
theorem eql9 (w : World) (s : ByteArray) : (binOp .eql 9 (.string s) (.string s)).run Ybad.prog w = .ok (.bool true) w := by
  simp [go_sem]
theorem add9 (w : World) (a b : ByteArray) (h : a.size + b.size ≤ 9223372036854775807) : (binOp .add 9 (.string a) (.string b)).run Ybad.prog w = .ok (.string (a ++ b)) w := by
  simp [go_sem, h]
theorem itoa_size (p : Int) (h0 : -9223372036854775808 ≤ p) (h1 : p ≤ 9223372036854775807) : (⟨(Lib.itoa p).toArray⟩ : ByteArray).size ≤ 21 := by
  show (Lib.itoa p).toArray.size ≤ 21
  rw [List.size_toArray]
  exact Lib.itoa_length_le p h0 h1

/-- What String gives. z: the fraction is empty. -/
def bodyOf (z : Bool) (p : Int) (s : ByteArray) : ByteArray := if z then ⟨(Lib.itoa p).toArray⟩ else ⟨#[48, 46]⟩ ++ s
def textOf (neg z : Bool) (p : Int) (s : ByteArray) : ByteArray := if neg then ⟨#[45]⟩ ++ bodyOf z p s else bodyOf z p s
theorem bodyOf_size (z : Bool) (p : Int) (s : ByteArray) (h0 : -9223372036854775808 ≤ p) (h1 : p ≤ 9223372036854775807) (hs : s.size ≤ 1048576) : (bodyOf z p s).size ≤ 1048600 := by
  unfold bodyOf
  split
  · have := itoa_size p h0 h1; omega
  · rw [ByteArray.size_append]
    have : (⟨#[48, 46]⟩ : ByteArray).size = 2 := rfl
    omega

/-- What follows String's body: the sign, and the result. -/
theorem tailS {w0 w : World} {neg z : Bool} {p : Int} {s B : ByteArray} {os : List Obj} {f : Nat → Value} (hB : B = bodyOf z p s) (hsz : B.size ≤ 1048600)
    (hr : Rep w0 w ([.cells #[.bool neg, .int .i64 p, .string s] 23 (0, 0)] ++ os)) (f1 : f 1 = .pointer (some ⟨w0.heap.size + 0, 0, none⟩)) (f3 : f 3 = .string B) :
    CF Ybad.prog 18 (tailFrom 4 (Ybad.f5.body.getD .skip)) (endF Ybad.prog Ybad.f5 fun e w' => ∃ v, e = .returned v ∧ v = .string (textOf neg z p s) ∧ ∃ os, Rep w0 w' os) f w := by
  have hf0 := fun w' => field23 w' (w0.heap.size + 0) 0 (by omega)
  simp only [Nat.add_zero] at hf0
  have hadd := fun w => add9 w ⟨#[45]⟩ B (by have : (⟨#[45]⟩ : ByteArray).size = 1 := rfl; omega)
  refine CF.seq (CF.seq (CF.region ?_))
  -- region 4
  refine RF.run (.pointer (some ⟨w0.heap.size + 0, 0, none⟩)) rfl rfl (by decide) (by simp [execOp, ev, upd, eqGuard, f1, f3, hf0]) ?_
  refine RF.load 4 23 _ _ 0 0 #[.bool neg, .int .i64 p, .string s] (0, 0) (.bool neg) hr rfl rfl rfl rfl (by decide) rfl Ybad.underlying4 rfl (by simp [ev, upd, f1, f3]) ?_
  refine RF.done ?_
  cases neg with
  | false =>
    have e : textOf false z p s = B := by simp [textOf, hB]
    refine CF.condF (by simp [ev, upd]) (CF.skip ?_)
    show CF _ _ _ _ _ _
    refine CF.seq (CF.region ?_)
    -- region 6
    refine RF.move _ (.string B) rfl rfl (by decide) rfl (by simp [ev, upd, f1, f3]) ?_
    refine RF.assign _ (.string B) rfl rfl (by decide) rfl (by simp [ev, upd, f1, f3]) ?_
    refine RF.done (CF.ret ?_)
    exact endF_tmp rfl ⟨_, rfl, by rw [e]; simp [upd], _, hr⟩
  | true =>
    have e : textOf true z p s = ⟨#[45]⟩ ++ B := by simp [textOf, hB]
    obtain ⟨T, hT⟩ : ∃ T : ByteArray, T = ⟨#[45]⟩ ++ B := ⟨_, rfl⟩
    rw [← hT] at hadd e
    refine CF.condT (by simp [ev, upd]) (CF.region ?_)
    -- region 5
    refine RF.move _ (.string B) rfl rfl (by decide) rfl (by simp [ev, upd, f1, f3]) ?_
    refine RF.run (.string T) rfl rfl (by decide) (by simp [execOp, ev, upd, eqGuard, f1, f3, hadd]) ?_
    refine RF.assign _ (.string T) rfl rfl (by decide) rfl (by simp [ev, upd, f1, f3]) ?_
    refine RF.nil ?_
    show CF _ _ _ _ _ _
    refine CF.seq (CF.region ?_)
    -- region 6
    refine RF.move _ (.string T) rfl rfl (by decide) rfl (by simp [ev, upd, f1, f3]) ?_
    refine RF.assign _ (.string T) rfl rfl (by decide) rfl (by simp [ev, upd, f1, f3]) ?_
    refine RF.done (CF.ret ?_)
    exact endF_tmp rfl ⟨_, rfl, by rw [e]; simp [upd], _, hr⟩

set_option maxHeartbeats 1000000 in
/-- (Length).String. -/
theorem string_any (neg z : Bool) (p : Int) (s : ByteArray) (w : World) (h0 : -9223372036854775808 ≤ p) (h1 : p ≤ 9223372036854775807) (hz : z = decide (s.size = 0)) (hs : s.size ≤ 1048576) (ht : Tab w) :
    Calls Ybad.prog 5 #[.agg #[.bool neg, .int .i64 p, .string s]] w fun e w' => ∃ v, e = .returned v ∧ v = .string (textOf neg z p s) ∧ ∃ os, Rep w w' os := by
  have hne := neq9 s z hz
  have hbs := bodyOf_size z p s h0 h1 hs
  have hadd := fun w => add9 w ⟨#[48, 46]⟩ s (by have : (⟨#[48, 46]⟩ : ByteArray).size = 2 := rfl; omega)
  clear hz
  refine calls_of_CF 18 Ybad.func5 rfl rfl (by simp) ?_
  intro f hf
  have f0 : f 0 = .agg #[.bool neg, .int .i64 p, .string s] := start_at hf 0 (by simp)
  clear hf
  refine CF.seq (CF.region ?_)
  -- region 0
  refine RF.box 23 _ #[.bool neg, .int .i64 p, .string s] (Rep.refl w) rfl rfl (by decide) rfl (by simp [ev, f0]) (fun w1 r1 => ?_)
  have r1' : Rep w w1 [.cells #[.bool neg, .int .i64 p, .string s] 23 (0, 0)] := r1
  clear r1
  refine RF.assign _ (.string ⟨#[]⟩) rfl rfl (by decide) rfl (by simp [ev, upd, f0]) ?_
  refine RF.done (CF.seq (CF.region ?_))
  -- region 1
  have hf1 := fun w' => field23 w' (w.heap.size + 0) 1 (by omega)
  have hf2 := fun w' => field23 w' (w.heap.size + 0) 2 (by omega)
  simp only [Nat.add_zero] at hf1 hf2
  refine RF.run (.pointer (some ⟨w.heap.size + 0, 1, none⟩)) rfl rfl (by decide) (by simp [execOp, ev, upd, eqGuard, f0, hf1]) ?_
  refine RF.load 3 23 _ _ 0 1 #[.bool neg, .int .i64 p, .string s] (0, 0) (.int .i64 p) r1' rfl rfl rfl rfl (by decide) rfl Ybad.underlying3 rfl (by simp [ev, upd, f0]) ?_
  refine RF.call 8 #[.int .i64 p] rfl rfl (by decide) (x_call 8 _ _ _ _ rfl Ybad.func8 (by kernel_rfl) rfl (by simp [ev, upd, f0]) rfl) (itoa_any p w1 h0 h1 (ht.rep r1')) (fun v w2 hv => ?_)
  obtain ⟨rfl, os, r2⟩ := hv
  obtain ⟨I, hI⟩ : ∃ I : ByteArray, I = ⟨(Lib.itoa p).toArray⟩ := ⟨_, rfl⟩
  rw [← hI]
  have r3 : Rep w w2 ([.cells #[.bool neg, .int .i64 p, .string s] 23 (0, 0)] ++ os) := r1'.trans r2
  refine RF.assign _ (.string I) rfl rfl (by decide) rfl (by simp [ev, upd, f0]) ?_
  refine RF.done (CF.seq (CF.seq (CF.region ?_)))
  -- region 2
  refine RF.run (.pointer (some ⟨w.heap.size + 0, 2, none⟩)) rfl rfl (by decide) (by simp [execOp, ev, upd, eqGuard, f0, hf2]) ?_
  refine RF.load 9 23 _ _ 0 2 #[.bool neg, .int .i64 p, .string s] (0, 0) (.string s) r3 rfl rfl rfl rfl (by decide) rfl Ybad.underlying9 rfl (by simp [ev, upd, f0]) ?_
  refine RF.run (.bool (!z)) rfl rfl (by decide) (by simp [execOp, ev, upd, eqGuard, f0, hne]) ?_
  refine RF.done ?_
  cases z with
  | true =>
    refine CF.condF (by simp [ev, upd]) (CF.skip ?_)
    show CF _ _ _ _ _ _
    exact tailS (B := I) (by rw [hI]; rfl) (by rw [hI]; exact hbs) r3 (by simp [upd]) (by simp [upd])
  | false =>
    obtain ⟨B, hB⟩ : ∃ B : ByteArray, B = ⟨#[48, 46]⟩ ++ s := ⟨_, rfl⟩
    rw [← hB] at hadd
    refine CF.condT (by simp [ev, upd]) (CF.region ?_)
    -- region 3
    refine RF.run (.pointer (some ⟨w.heap.size + 0, 2, none⟩)) rfl rfl (by decide) (by simp [execOp, ev, upd, eqGuard, f0, hf2]) ?_
    refine RF.load 9 23 _ _ 0 2 #[.bool neg, .int .i64 p, .string s] (0, 0) (.string s) r3 rfl rfl rfl rfl (by decide) rfl Ybad.underlying9 rfl (by simp [ev, upd, f0]) ?_
    refine RF.run (.string B) rfl rfl (by decide) (by simp [execOp, ev, upd, eqGuard, f0, hadd]) ?_
    refine RF.assign _ (.string B) rfl rfl (by decide) rfl (by simp [ev, upd, f0]) ?_
    refine RF.nil ?_
    show CF _ _ _ _ _ _
    exact tailS (B := B) (by rw [hB]; rfl) (by rw [hB]; exact hbs) r3 (by simp [upd]) (by simp [upd])

/-! ### the law -/
theorem build23 (neg : Bool) (p : Int) (s : ByteArray) (w : World) : (Instr.build 23 #[(0, .bool neg), (1, .int .i64 p), (2, .string s)]).run Ybad.prog w = .ok (.agg #[.bool neg, .int .i64 p, .string s]) w := by
  kernel_rfl

/-- What follows once the body is known: the sign, the comparison. -/
theorem tailL {w0 w : World} {neg z : Bool} {p : Int} {s B : ByteArray} {os : List Obj} {f : Nat → Value} (hB : B = bodyOf z p s) (hsz : B.size ≤ 1048600)
    (hr : Rep w0 w os) (f0 : f 0 = .bool neg) (f8 : f 8 = .string (textOf neg z p s)) (f9 : f 9 = .string B) :
    CF Ybad.prog 34 (tailFrom 9 (Ybad.f3.body.getD .skip)) (endF Ybad.prog Ybad.f3 fun e w' => e = .returned (.bool true) ∧ ∃ os, Rep w0 w' os) f w := by
  have hadd := fun w => add9 w ⟨#[45]⟩ B (by have : (⟨#[45]⟩ : ByteArray).size = 1 := rfl; omega)
  refine CF.seq (CF.region ?_)
  -- region 9
  refine RF.move _ (.string B) rfl rfl (by decide) rfl (by simp [ev, upd, f0, f8, f9]) ?_
  refine RF.assign _ (.string B) rfl rfl (by decide) rfl (by simp [ev, upd, f0, f8, f9]) ?_
  refine RF.done (CF.seq (CF.seq (CF.region ?_)))
  -- region 10
  refine RF.move _ (.bool neg) rfl rfl (by decide) rfl (by simp [ev, upd, f0, f8, f9]) ?_
  refine RF.done ?_
  cases neg with
  | false =>
    have e : textOf false z p s = B := by simp [textOf, hB]
    rw [e] at f8
    have heq := fun w => eql9 w B
    refine CF.condF (by simp [ev, upd]) (CF.skip ?_)
    show CF _ _ _ _ _ _
    refine CF.seq (CF.region ?_)
    -- region 12
    refine RF.move _ (.string B) rfl rfl (by decide) rfl (by simp [ev, upd, f0, f8, f9]) ?_
    refine RF.move _ (.string B) rfl rfl (by decide) rfl (by simp [ev, upd, f0, f8, f9]) ?_
    refine RF.run (.bool true) rfl rfl (by decide) (by simp [execOp, ev, upd, eqGuard, f0, f8, f9, heq]) ?_
    refine RF.assign _ (.bool true) rfl rfl (by decide) rfl (by simp [ev, upd, f0, f8, f9]) ?_
    refine RF.done (CF.ret ?_)
    exact endF_tmp rfl ⟨by simp [upd], _, hr⟩
  | true =>
    have e : textOf true z p s = ⟨#[45]⟩ ++ B := by simp [textOf, hB]
    obtain ⟨T, hT⟩ : ∃ T : ByteArray, T = ⟨#[45]⟩ ++ B := ⟨_, rfl⟩
    rw [← hT] at hadd e
    rw [e] at f8
    have heq := fun w => eql9 w T
    refine CF.condT (by simp [ev, upd]) (CF.region ?_)
    -- region 11
    refine RF.move _ (.string B) rfl rfl (by decide) rfl (by simp [ev, upd, f0, f8, f9]) ?_
    refine RF.run (.string T) rfl rfl (by decide) (by simp [execOp, ev, upd, eqGuard, f0, f8, f9, hadd]) ?_
    refine RF.assign _ (.string T) rfl rfl (by decide) rfl (by simp [ev, upd, f0, f8, f9]) ?_
    refine RF.nil ?_
    show CF _ _ _ _ _ _
    refine CF.seq (CF.region ?_)
    -- region 12
    refine RF.move _ (.string T) rfl rfl (by decide) rfl (by simp [ev, upd, f0, f8, f9]) ?_
    refine RF.move _ (.string T) rfl rfl (by decide) rfl (by simp [ev, upd, f0, f8, f9]) ?_
    refine RF.run (.bool true) rfl rfl (by decide) (by simp [execOp, ev, upd, eqGuard, f0, f8, f9, heq]) ?_
    refine RF.assign _ (.bool true) rfl rfl (by decide) rfl (by simp [ev, upd, f0, f8, f9]) ?_
    refine RF.done (CF.ret ?_)
    exact endF_tmp rfl ⟨by simp [upd], _, hr⟩

set_option maxHeartbeats 1000000 in
/-- THE WALK: LawS6389BWhole returns true and writes nothing that was there. -/
theorem walkL (neg : Bool) (p : Int) (s : ByteArray) (w : World) (h0 : -9223372036854775808 ≤ p) (h1 : p ≤ 9223372036854775807) (ht : Tab w) :
    Calls Ybad.prog 3 #[.bool neg, .int .i64 p, .string s] w fun e w' => e = .returned (.bool true) ∧ ∃ os, Rep w w' os := by
  obtain ⟨n, hn⟩ : ∃ n, n = s.size := ⟨_, rfl⟩
  have hlen : ∀ w ty, (Builtin.len_ #[9] ty #[.string s]).run Ybad.prog w = .ok (.int .i64 (n : Int)) w := fun w ty => by rw [len9, hn]
  refine calls_of_CF 34 Ybad.func3 rfl rfl (by simp) ?_
  intro f hf
  have f0 : f 0 = .bool neg := start_at hf 0 (by simp)
  have f1 : f 1 = .int .i64 p := start_at hf 1 (by simp)
  have f2 : f 2 = .string s := start_at hf 2 (by simp)
  clear hf
  refine CF.seq (CF.region ?_)
  -- region 0
  refine RF.assign _ (.bool false) rfl rfl (by decide) rfl (by simp [ev, upd, f0, f1, f2]) ?_
  refine RF.done (CF.seq (CF.seq (CF.region ?_)))
  -- region 1
  refine RF.move _ (.string s) rfl rfl (by decide) rfl (by simp [ev, upd, f0, f1, f2]) ?_
  refine RF.run (.int .i64 (n : Int)) rfl rfl (by decide) (x_len _ 9 (.string s) _ rfl (by simp [ev, upd, f0, f1, f2]) (hlen _ _)) ?_
  refine RF.run (.bool (decide ((1048576 : Int) < (n : Int)))) rfl rfl (by decide) (by simp [execOp, ev, upd, eqGuard, f0, f1, f2, go_sem]) ?_
  refine RF.done ?_
  by_cases hbig : 1048576 < n
  · refine CF.condT (by simp [ev, upd]; omega) ?_
    refine CF.seq (CF.region ?_)
    refine RF.assign _ (.bool true) rfl rfl (by decide) rfl rfl (RF.done ?_)
    refine CF.ret ?_
    rw [then_ret]
    exact endF_tmp rfl ⟨by simp [upd], _, Rep.refl w⟩
  · have hs : s.size ≤ 1048576 := by omega
    have hbd := fun w => build23 neg p s w
    refine CF.condF (by simp [ev, upd]; omega) (CF.skip ?_)
    show CF _ _ _ _ _ _
    refine CF.seq (CF.region ?_)
    -- region 3
    refine RF.move _ (.bool neg) rfl rfl (by decide) rfl (by simp [ev, upd, f0, f1, f2]) ?_
    refine RF.move _ (.int .i64 p) rfl rfl (by decide) rfl (by simp [ev, upd, f0, f1, f2]) ?_
    refine RF.move _ (.string s) rfl rfl (by decide) rfl (by simp [ev, upd, f0, f1, f2]) ?_
    refine RF.run (.agg #[.bool neg, .int .i64 p, .string s]) rfl rfl (by decide) (by simp [execOp, ev, upd, eqGuard, f0, f1, f2, hbd]) ?_
    refine RF.new 23 _ _ #[.bool neg, .int .i64 p, .string s] (Rep.refl w) rfl rfl (by decide) rfl zero23 rfl rfl rfl (by simp [ev, upd, f0, f1, f2]) size23 rfl (by simp [Value.oneCell']) (fun w1 r1 => ?_)
    have r1' : Rep w w1 [.cells #[.bool neg, .int .i64 p, .string s] 23 (0, 0)] := r1
    clear r1
    refine RF.done (CF.seq (CF.region ?_))
    -- region 4
    refine RF.loadRow 23 23 _ _ 0 #[.bool neg, .int .i64 p, .string s] (0, 0) r1' rfl rfl rfl (by decide) rfl Ybad.underlying23 rfl (by simp [ev, upd, f0, f1, f2]) size23 ?_
    obtain ⟨z, hz⟩ : ∃ z, z = decide (s.size = 0) := ⟨_, rfl⟩
    refine RF.call 5 #[.agg #[.bool neg, .int .i64 p, .string s]] rfl rfl (by decide) (x_call 5 _ _ _ _ rfl Ybad.func5 (by kernel_rfl) rfl (by simp [ev, upd, f0, f1, f2]) rfl) (string_any neg z p s w1 h0 h1 hz hs (ht.rep r1')) (fun v w2 hv => ?_)
    obtain ⟨rfl, os, r2⟩ := hv
    have r3 := r1'.trans r2
    obtain ⟨T, hT⟩ : ∃ T, T = textOf neg z p s := ⟨_, rfl⟩
    rw [← hT]
    refine RF.assign _ (.string T) rfl rfl (by decide) rfl (by simp [ev, upd, f0, f1, f2]) ?_
    refine RF.done (CF.seq (CF.region ?_))
    -- region 5
    refine RF.assign _ (.string ⟨#[]⟩) rfl rfl (by decide) rfl (by simp [ev, upd, f0, f1, f2]) ?_
    refine RF.done (CF.seq (CF.seq (CF.region ?_)))
    -- region 6
    refine RF.move _ (.string s) rfl rfl (by decide) rfl (by simp [ev, upd, f0, f1, f2]) ?_
    refine RF.run (.int .i64 (n : Int)) rfl rfl (by decide) (x_len _ 9 (.string s) _ rfl (by simp [ev, upd, f0, f1, f2]) (hlen _ _)) ?_
    refine RF.run (.bool (decide ((0 : Int) < (n : Int)))) rfl rfl (by decide) (by simp [execOp, ev, upd, eqGuard, f0, f1, f2, go_sem]) ?_
    refine RF.done ?_
    have hbs := bodyOf_size z p s h0 h1 hs
    by_cases hn0 : n = 0
    · have hz1 : z = true := by rw [hz]; exact decide_eq_true (by omega)
      subst hz1
      obtain ⟨I, hI⟩ : ∃ I : ByteArray, I = ⟨(Lib.itoa p).toArray⟩ := ⟨_, rfl⟩
      refine CF.condF (by simp [ev, upd]; omega) (CF.region ?_)
      -- region 8
      refine RF.move _ (.int .i64 p) rfl rfl (by decide) rfl (by simp [ev, upd, f0, f1, f2]) ?_
      refine RF.call 6 #[.int .i64 p] rfl rfl (by decide) (x_call 6 _ _ _ _ rfl Ybad.func6 (by kernel_rfl) rfl (by simp [ev, upd, f0, f1, f2]) rfl) (bitoa_any p w2 h0 h1) (fun v w3 hv => ?_)
      obtain ⟨rfl, o, r4⟩ := hv
      rw [← hI]
      refine RF.assign _ (.string I) rfl rfl (by decide) rfl (by simp [ev, upd, f0, f1, f2]) ?_
      refine RF.nil ?_
      show CF _ _ _ _ _ _
      exact tailL (neg := neg) (z := true) (p := p) (s := s) (B := I) (by rw [hI]; rfl) (by rw [hI]; exact hbs) (r3.trans r4) (by simp [upd, f0]) (by simp [upd, hT]) (by simp [upd])
    · have hz0 : z = false := by rw [hz]; exact decide_eq_false (by omega)
      subst hz0
      have hadd := fun w => add9 w ⟨#[48, 46]⟩ s (by have : (⟨#[48, 46]⟩ : ByteArray).size = 2 := rfl; omega)
      obtain ⟨B, hB⟩ : ∃ B : ByteArray, B = ⟨#[48, 46]⟩ ++ s := ⟨_, rfl⟩
      rw [← hB] at hadd
      refine CF.condT (by simp [ev, upd]; omega) (CF.region ?_)
      -- region 7
      refine RF.move _ (.string s) rfl rfl (by decide) rfl (by simp [ev, upd, f0, f1, f2]) ?_
      refine RF.run (.string B) rfl rfl (by decide) (by simp [execOp, ev, upd, eqGuard, f0, f1, f2, hadd]) ?_
      refine RF.assign _ (.string B) rfl rfl (by decide) rfl (by simp [ev, upd, f0, f1, f2]) ?_
      refine RF.nil ?_
      show CF _ _ _ _ _ _
      exact tailL (neg := neg) (z := false) (p := p) (s := s) (B := B) (by rw [hB]; rfl) (by rw [hB]; exact hbs) r3 (by simp [upd, f0]) (by simp [upd, hT]) (by simp [upd])
end Go.Proofs.YbulkebhgDoor

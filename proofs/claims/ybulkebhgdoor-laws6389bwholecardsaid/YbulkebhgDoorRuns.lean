/-
  WHAT EACH OPERATION DOES, over an operand's value and the blocks of memory; and the memory as 'the old heap, and behind it the list of the call's own blocks'.
-/
import Derived.Test.YbulkebhgDoorFrame
import Derived.Laws.Rows
import Derived.Laws.Tables
import Derived.Laws.IdiomCopy
import Derived.Deep.WholeRow
import Derived.Deep.OwnRows
import Derived.Deep.MidRow
namespace Go.Proofs.YbulkebhgDoor
open Go.RowKit

/-! ### The memory: the old heap, and behind it the call's own blocks -/
/-- w is w0 but for new blocks 'os' behind the old heap (and draws). -/
def Rep (w0 w : World) (os : List Obj) : Prop := w.os = w0.os ∧ w.tape = w0.tape ∧ w.output = w0.output ∧ w.heap = w0.heap ++ os.toArray

theorem Rep.refl (w : World) : Rep w w [] := ⟨rfl, rfl, rfl, by simp⟩

section
variable {w0 w : World} {os : List Obj}

theorem Rep.size (h : Rep w0 w os) : w.heap.size = w0.heap.size + os.length := by rw [h.2.2.2]; simp

theorem Rep.alloc (h : Rep w0 w os) (o : Obj) : Rep w0 (w.alloc o) (os ++ [o]) :=
  ⟨h.1, h.2.1, h.2.2.1, by show w.heap.push o = _; rw [h.2.2.2]; simp⟩

theorem Rep.drawn (h : Rep w0 w os) (d : Nat) : Rep w0 { w with drawn := d } os := h

theorem Rep.block (h : Rep w0 w os) {i : Nat} {o : Obj} (hi : os[i]? = some o) : w.heap[w0.heap.size + i]? = some o := by
  rw [h.2.2.2, Array.getElem?_append_right (by omega)]
  simp [hi]

theorem Rep.block' (h : Rep w0 w os) {b i : Nat} {o : Obj} (hb : b = w0.heap.size + i) (hi : os[i]? = some o) : w.heap[b]? = some o := by
  subst hb; exact h.block hi

theorem Rep.old (h : Rep w0 w os) {b : Nat} (hb : b < w0.heap.size) : w.heap[b]? = w0.heap[b]? := by
  rw [h.2.2.2, Array.getElem?_append_left hb]

theorem Rep.below (h : Rep w0 w os) : Below w0.heap.size w0 w :=
  ⟨h.1, h.2.1, h.2.2.1, by rw [h.size]; omega, fun k hk => h.old hk⟩

/-- One of the call's own blocks is turned. -/
theorem Rep.turn (h : Rep w0 w os) {w' : World} {i : Nat} {o : Obj} (h1 : w'.os = w.os) (h2 : w'.tape = w.tape) (h3 : w'.output = w.output) (hi : i < os.length) (hsame : w'.heap[w0.heap.size + i]? = some o) (hother : ∀ k, k ≠ w0.heap.size + i → w'.heap[k]? = w.heap[k]?) : Rep w0 w' (os.set i o) := by
  refine ⟨h1.trans h.1, h2.trans h.2.1, h3.trans h.2.2.1, ?_⟩
  apply Array.ext_getElem?
  intro k
  by_cases hk : k = w0.heap.size + i
  · subst hk
    rw [hsame, Array.getElem?_append_right (by omega)]
    simp [hi]
  · rw [hother k hk, h.2.2.2]
    by_cases hlt : k < w0.heap.size
    · rw [Array.getElem?_append_left hlt, Array.getElem?_append_left hlt]
    · rw [Array.getElem?_append_right (by omega), Array.getElem?_append_right (by omega)]
      have : i ≠ k - w0.heap.size := by omega
      simp [List.getElem?_set_ne this]

theorem Rep.trans {w' : World} {os' : List Obj} (h : Rep w0 w os) (h' : Rep w w' os') : Rep w0 w' (os ++ os') :=
  ⟨h'.1.trans h.1, h'.2.1.trans h.2.1, h'.2.2.1.trans h.2.2.1, by rw [h'.2.2.2, h.2.2.2]; simp⟩

theorem heap_setCell_same (w : World) {b : Nat} {cs : Array Value} {t : TypeId} {fr : Nat × Nat} (hb : w.heap[b]? = some (.cells cs t fr)) (off : Nat) (v : Value) :
    (w.setCell ⟨b, off, none⟩ v).heap[b]? = some (.cells (cs.setIfInBounds off v) t fr) := by
  simp [World.setCell, Array.getElem?_modify, hb]

theorem Rep.setCell (h : Rep w0 w os) {i : Nat} {cs : Array Value} {t : TypeId} {fr : Nat × Nat} (hi : os[i]? = some (.cells cs t fr)) (off : Nat) (v : Value) :
    Rep w0 (w.setCell ⟨w0.heap.size + i, off, none⟩ v) (os.set i (.cells (cs.setIfInBounds off v) t fr)) :=
  h.turn rfl rfl rfl (List.getElem?_eq_some_iff.1 hi).1 (heap_setCell_same w (h.block hi) off v)
    (fun _ hk => Below.heap_setCell _ _ _ _ hk)

theorem Rep.setRow (h : Rep w0 w os) {i : Nat} {cs : Array Value} {t : TypeId} {fr : Nat × Nat} (hi : os[i]? = some (.cells cs t fr)) (cs' : Array Value) :
    Rep w0 (w.setRow (w0.heap.size + i) cs') (os.set i (.cells cs' t fr)) :=
  h.turn rfl rfl rfl (List.getElem?_eq_some_iff.1 hi).1 (setRow_heap w _ cs cs' t fr (h.block hi))
    (fun k hk => by simp [World.setRow, Array.getElem?_modify, Ne.symm hk])
end

/-! ### The operations -/
section
variable {P : Program} {w : World} {ρ : Operand → Value} {o : Oper}

theorem x_move (x : Operand) (ho : o.op = .move x) : (execOp ρ o).run P w = .ok (.value (ρ x)) w := by simp [execOp, ho]
theorem x_assign (x : Operand) (ho : o.op = .assign x) : (execOp ρ o).run P w = .ok (.value (ρ x)) w := by simp [execOp, ho]

theorem x_alloc (t : TypeId) (z : Value) (ho : o.op = .alloc t) (hz : (P.info? t).map (·.zero) = some (some z)) :
    (execOp ρ o).run P w = .ok (.value (.pointer (some ⟨w.heap.size, 0, none⟩))) (w.alloc (.cells z.cells t)) := by
  cases hq : P.info? t with
  | none => simp [hq] at hz
  | some i =>
    simp [hq] at hz
    simp [execOp, ho, Instr.alloc, zeroValue, typeInfo, hq, hz, newVar, newRow, Result.andThen]

theorem x_box (t : TypeId) (x : Operand) (ho : o.op = .box t x) :
    (execOp ρ o).run P w = .ok (.value (.pointer (some ⟨w.heap.size, 0, none⟩))) (w.alloc (.cells (ρ x).cells t)) := by
  simp [execOp, ho, Instr.box, newVar, newRow, Result.andThen]

theorem cell_at {b off : Nat} {cs : Array Value} {t : TypeId} {fr : Nat × Nat} (hb : w.heap[b]? = some (.cells cs t fr)) {v : Value} (hc : cs[off]? = some v) : w.cell? ⟨b, off, none⟩ = some v := by
  rw [cell_of_row w b off cs t fr hb]; exact hc

/-- A load of one cell. -/
theorem x_load (t : TypeId) (x : Operand) (d : TypeDesc) (b off : Nat) (v : Value) (ho : o.op = .load t x) (hu : P.underlying t = some d) (hd : d.isRow = false) (hx : ρ x = .pointer (some ⟨b, off, none⟩))
    (hc : w.cell? ⟨b, off, none⟩ = some v) : (execOp ρ o).run P w = .ok (.value v) w := by
  have hagg : (isAgg t).run P w = .ok false w := by
    unfold isAgg
    rw [Sem.run_bind, run_underlying hu w]
    cases d <;> simp_all
  simp [execOp, ho, hx, Instr.loadAt, Instr.sureAddr, loadVar, Sem.run_bind, hagg, Result.andThen, hc]

/-- A load of a whole block. -/
theorem x_loadRow (t t' : TypeId) (x : Operand) (d : TypeDesc) (b : Nat) (cs : Array Value) (fr : Nat × Nat) (ho : o.op = .load t x) (hu : P.underlying t = some d) (hd : d.isRow = true) (hx : ρ x = .pointer (some ⟨b, 0, none⟩))
    (hb : w.heap[b]? = some (.cells cs t' fr)) (hi : (P.info? t).map (·.size) = some cs.size) : (execOp ρ o).run P w = .ok (.value (.agg cs)) w := by
  have := run_loadVar_row (P := P) w b t' t cs fr d hb hu (by cases d <;> first | rfl | cases hd) hi
  simp [execOp, ho, hx, Instr.loadAt, Instr.sureAddr, this, Result.andThen]

/-- A store of one cell into a block that is not frozen. -/
theorem x_store (t t' : TypeId) (x y : Operand) (b off : Nat) (cs : Array Value) (v : Value) (ho : o.op = .store t x y) (hx : ρ x = .pointer (some ⟨b, off, none⟩)) (hy : ρ y = v) (hv : v.oneCell' = true) (h1 : v.cells = #[v])
    (hi : (P.info? t).map (·.size) = some 1) (hb : w.heap[b]? = some (.cells cs t' (0, 0))) (hoff : off < cs.size) : (execOp ρ o).run P w = .ok .skip (w.setCell ⟨b, off, none⟩ v) := by
  have hc : w.cell? ⟨b, off, none⟩ = some cs[off] := cell_at hb (by simp [hoff])
  have hf : w.frozen? ⟨b, off, none⟩ = false := by simp [World.frozen?, hb]
  cases hq : P.info? t with
  | none => simp [hq] at hi
  | some i =>
    have hs : i.size = 1 := by simpa [hq] using hi
    have hadd : (⟨b, off, none⟩ : Addr).add 0 = ⟨b, off, none⟩ := by unfold Addr.add; split <;> simp_all
    have hst := run_store P w ⟨b, off, none⟩ v .plain hv
    simp [execOp, ho, hx, hy, Instr.storeAt, Instr.sureAddr, storeVar, sizeOf, typeInfo, hq, hs, h1, Sem.run_bind, Result.andThen, storeCells, hadd, hst, hc, hf]

/-- A store of a whole block. -/
theorem x_storeRow (t t' : TypeId) (x y : Operand) (b : Nat) (cs cs' : Array Value) (ho : o.op = .store t x y) (hx : ρ x = .pointer (some ⟨b, 0, none⟩)) (hy : ρ y = .agg cs')
    (hb : w.heap[b]? = some (.cells cs t' (0, 0))) (hi : (P.info? t).map (·.size) = some cs'.size) (hs : cs.size = cs'.size) (h1 : cs'.all (·.oneCell') = true) : (execOp ρ o).run P w = .ok .skip (w.setRow b cs') := by
  have := run_storeVar_row (P := P) w b t' t cs cs' hb hi hs h1
  simp [execOp, ho, hx, hy, Instr.storeAt, Instr.sureAddr, this, Result.andThen]

end

/-! ### The same at a plain region's list, the world a letter -/
section
variable {P : Program} {n : Nat} {Q : Exit → (Nat → Value) → World → Prop} {f : Nat → Value} {w0 w : World} {os : List Obj} {ops : Array Oper} {o : Oper} {rest : List Oper} {d : Nat}

theorem RF.move (x : Operand) (v : Value) (hg : o.guard = none) (hd : o.dst = some d) (hn : d < n) (ho : o.op = .move x) (hx : ev f x = v) (h : RF P n ops rest Q (upd f d v) w) : RF P n ops (o :: rest) Q f w :=
  RF.val v w hg hd hn (by rw [x_move x ho, hx]) h
theorem RF.assign (x : Operand) (v : Value) (hg : o.guard = none) (hd : o.dst = some d) (hn : d < n) (ho : o.op = .assign x) (hx : ev f x = v) (h : RF P n ops rest Q (upd f d v) w) : RF P n ops (o :: rest) Q f w :=
  RF.val v w hg hd hn (by rw [x_assign x ho, hx]) h

theorem RF.alloc (t : TypeId) (z : Value) (hr : Rep w0 w os) (hg : o.guard = none) (hd : o.dst = some d) (hn : d < n) (ho : o.op = .alloc t) (hz : (P.info? t).map (·.zero) = some (some z))
    (h : ∀ w', Rep w0 w' (os ++ [.cells z.cells t]) → RF P n ops rest Q (upd f d (.pointer (some ⟨w0.heap.size + os.length, 0, none⟩))) w') : RF P n ops (o :: rest) Q f w :=
  RF.val _ _ hg hd hn (x_alloc t z ho hz) (by rw [hr.size]; exact h _ (hr.alloc _))

theorem RF.box (t : TypeId) (x : Operand) (cs : Array Value) (hr : Rep w0 w os) (hg : o.guard = none) (hd : o.dst = some d) (hn : d < n) (ho : o.op = .box t x) (hx : ev f x = .agg cs)
    (h : ∀ w', Rep w0 w' (os ++ [.cells cs t]) → RF P n ops rest Q (upd f d (.pointer (some ⟨w0.heap.size + os.length, 0, none⟩))) w') : RF P n ops (o :: rest) Q f w :=
  RF.val _ _ hg hd hn (x_box t x ho) (by rw [hr.size, hx]; exact h _ (hr.alloc _))

theorem RF.load (t t' : TypeId) (x : Operand) (td : TypeDesc) (i off : Nat) (cs : Array Value) (fr : Nat × Nat) (v : Value) (hr : Rep w0 w os) (hi : os[i]? = some (.cells cs t' fr)) (hc : cs[off]? = some v) (hg : o.guard = none) (hd : o.dst = some d) (hn : d < n)
    (ho : o.op = .load t x) (hu : P.underlying t = some td) (htd : td.isRow = false) (hx : ev f x = .pointer (some ⟨w0.heap.size + i, off, none⟩)) (h : RF P n ops rest Q (upd f d v) w) : RF P n ops (o :: rest) Q f w :=
  RF.val v w hg hd hn (x_load t x td _ off v ho hu htd hx (cell_at (hr.block hi) hc)) h

theorem RF.loadRow (t t' : TypeId) (x : Operand) (td : TypeDesc) (i : Nat) (cs : Array Value) (fr : Nat × Nat) (hr : Rep w0 w os) (hi : os[i]? = some (.cells cs t' fr)) (hg : o.guard = none) (hd : o.dst = some d) (hn : d < n)
    (ho : o.op = .load t x) (hu : P.underlying t = some td) (htd : td.isRow = true) (hx : ev f x = .pointer (some ⟨w0.heap.size + i, 0, none⟩)) (hs : (P.info? t).map (·.size) = some cs.size) (h : RF P n ops rest Q (upd f d (.agg cs)) w) : RF P n ops (o :: rest) Q f w :=
  RF.val (.agg cs) w hg hd hn (x_loadRow t t' x td _ cs fr ho hu htd hx (hr.block hi) hs) h

theorem RF.store (t t' : TypeId) (x y : Operand) (i off : Nat) (cs : Array Value) (v : Value) (hr : Rep w0 w os) (hi : os[i]? = some (.cells cs t' (0, 0))) (hoff : off < cs.size) (hg : o.guard = none) (hd : o.dst = none)
    (ho : o.op = .store t x y) (hx : ev f x = .pointer (some ⟨w0.heap.size + i, off, none⟩)) (hy : ev f y = v) (hv : v.oneCell' = true) (h1 : v.cells = #[v]) (hs : (P.info? t).map (·.size) = some 1)
    (h : ∀ w', Rep w0 w' (os.set i (.cells (cs.setIfInBounds off v) t' (0, 0))) → RF P n ops rest Q f w') : RF P n ops (o :: rest) Q f w :=
  RF.unit _ hg hd (x_store t t' x y _ off cs v ho hx hy hv h1 hs (hr.block hi) hoff) (h _ (hr.setCell hi off v))

theorem RF.storeRow (t t' : TypeId) (x y : Operand) (i : Nat) (cs cs' : Array Value) (hr : Rep w0 w os) (hi : os[i]? = some (.cells cs t' (0, 0))) (hg : o.guard = none) (hd : o.dst = none)
    (ho : o.op = .store t x y) (hx : ev f x = .pointer (some ⟨w0.heap.size + i, 0, none⟩)) (hy : ev f y = .agg cs') (hs : (P.info? t).map (·.size) = some cs'.size) (hsz : cs.size = cs'.size) (h1 : cs'.all (·.oneCell') = true)
    (h : ∀ w', Rep w0 w' (os.set i (.cells cs' t' (0, 0))) → RF P n ops rest Q f w') : RF P n ops (o :: rest) Q f w :=
  RF.unit _ hg hd (x_storeRow t t' x y _ cs cs' ho hx hy (hr.block hi) hs hsz h1) (h _ (hr.setRow hi cs'))

/-- Any other operation, by the equation on its run. -/
theorem RF.run (v : Value) (hg : o.guard = none) (hd : o.dst = some d) (hn : d < n) (hrun : (execOp (ev f) o).run P w = .ok (.value v) w) (h : RF P n ops rest Q (upd f d v) w) : RF P n ops (o :: rest) Q f w :=
  RF.val v w hg hd hn hrun h

end

/-! ### Guarded -/
theorem RF.runG {P : Program} {n : Nat} {Q : Exit → (Nat → Value) → World → Prop} {f : Nat → Value} {w : World} {ops : Array Oper} {o : Oper} {rest : List Oper} {d : Nat} (v : Value) {j t : Nat} {b : Bool} (hg : o.guard = some (j, b)) (hj : (ops[j]?).bind (·.dst) = some t) (ht : t < n) (hv : f t = .bool b) (hd : o.dst = some d) (hn : d < n)
    (hrun : (execOp (ev f) o).run P w = .ok (.value v) w) (h : RF P n ops rest Q (upd f d v) w) : RF P n ops (o :: rest) Q f w := RF.valG v w hg hj ht hv hd hn hrun h

/-! ### The same in a quiet region -/
section
variable {P : Program} {n : Nat} {f : Nat → Value} {ops : Array Oper} {o : Oper} {rest : List Oper} {d : Nat} {C : World → Prop} {R : (Nat → Value) → Prop}

theorem QF.move (x : Operand) (v : Value) (hg : o.guard = none) (hd : o.dst = some d) (hn : d < n) (ho : o.op = .move x) (hx : ev f x = v) (h : QF P n ops C rest R (upd f d v)) : QF P n ops C (o :: rest) R f :=
  QF.val v hg hd hn (fun w _ => by rw [x_move x ho, hx]) h
theorem QF.assign (x : Operand) (v : Value) (hg : o.guard = none) (hd : o.dst = some d) (hn : d < n) (ho : o.op = .assign x) (hx : ev f x = v) (h : QF P n ops C rest R (upd f d v)) : QF P n ops C (o :: rest) R f :=
  QF.val v hg hd hn (fun w _ => by rw [x_assign x ho, hx]) h
theorem QF.load (t : TypeId) (x : Operand) (td : TypeDesc) (b off : Nat) (v : Value) (hc : ∀ w, C w → w.cell? ⟨b, off, none⟩ = some v) (hg : o.guard = none) (hd : o.dst = some d) (hn : d < n)
    (ho : o.op = .load t x) (hu : P.underlying t = some td) (htd : td.isRow = false) (hx : ev f x = .pointer (some ⟨b, off, none⟩)) (h : QF P n ops C rest R (upd f d v)) : QF P n ops C (o :: rest) R f :=
  QF.val v hg hd hn (fun w hw => x_load t x td b off v ho hu htd hx (hc w hw)) h
theorem QF.loadRow (t t' : TypeId) (x : Operand) (td : TypeDesc) (b : Nat) (cs : Array Value) (fr : Nat × Nat) (hc : ∀ w, C w → w.heap[b]? = some (.cells cs t' fr)) (hg : o.guard = none) (hd : o.dst = some d) (hn : d < n)
    (ho : o.op = .load t x) (hu : P.underlying t = some td) (htd : td.isRow = true) (hx : ev f x = .pointer (some ⟨b, 0, none⟩)) (hs : (P.info? t).map (·.size) = some cs.size) (h : QF P n ops C rest R (upd f d (.agg cs))) : QF P n ops C (o :: rest) R f :=
  QF.val (.agg cs) hg hd hn (fun w hw => x_loadRow t t' x td b cs fr ho hu htd hx (hc w hw) hs) h
end

/-! ### More operations -/
section
variable {P : Program} {w : World} {ρ : Operand → Value} {o : Oper}

/-- A load of one cell, at whatever address. -/
theorem x_loadA (t : TypeId) (x : Operand) (d : TypeDesc) (p : Addr) (v : Value) (ho : o.op = .load t x) (hu : P.underlying t = some d) (hd : d.isRow = false) (hx : ρ x = .pointer (some p))
    (hc : w.cell? p = some v) : (execOp ρ o).run P w = .ok (.value v) w := by
  have hagg : (isAgg t).run P w = .ok false w := by
    unfold isAgg
    rw [Sem.run_bind, run_underlying hu w]
    cases d <;> simp_all
  simp [execOp, ho, hx, Instr.loadAt, Instr.sureAddr, loadVar, Sem.run_bind, hagg, Result.andThen, hc]

/-- A call of a Go function that has a body. -/
theorem x_call (g : FuncId) (fn : Func) (xs : Array Operand) (ts : Array TypeId) (args : Array Value) (ho : o.op = .call { callee := .value (.func g), args := xs, argTypes := ts }) (hf : P.funcs[g]? = some fn)
    (hname : (fn.name == "runtime.NumGoroutine") = false) (hb : fn.body.isNone = false) (hx : xs.map ρ = args) (hg : ρ (.func g) = .func (.func g) #[] #[]) : (execOp ρ o).run P w = .ok (.enter g args) w := by
  have h1 : ¬ (fn.name = "runtime.NumGoroutine") := by simpa using hname
  have h2 : ¬ (fn.body = none) := by cases h : fn.body <;> simp_all
  simp [execOp, ho, resolve, hg, Deferred.ofValue, invoke, callFunc, hf, h1, h2, hx]

theorem x_len (x : Operand) (t : TypeId) (u v : Value) (ho : o.op = .call { callee := .builtin .len, args := #[x], argTypes := #[t] }) (hx : ρ x = u) (hr : (Builtin.len_ #[t] o.type #[u]).run P w = .ok v w) : (execOp ρ o).run P w = .ok (.value v) w := by
  simp [execOp, ho, resolve, invoke, builtin, hx, hr, Result.andThen]

end

section
variable {P : Program} {n : Nat} {Q : Exit → (Nat → Value) → World → Prop} {f : Nat → Value} {w0 w : World} {os : List Obj} {ops : Array Oper} {o o' : Oper} {rest : List Oper} {d : Nat}

/-- 'x := v', v a struct or an array: a new block with v in it. -/
theorem RF.new (t : TypeId) (z : Value) (y : Operand) (cs : Array Value) (hr : Rep w0 w os) (hg : o.guard = none) (hd : o.dst = some d) (hn : d < n) (ho : o.op = .alloc t) (hz : (P.info? t).map (·.zero) = some (some z))
    (hg' : o'.guard = none) (hd' : o'.dst = none) (ho' : o'.op = .store t (.tmp d) y) (hy : ev (upd f d (.pointer (some ⟨w0.heap.size + os.length, 0, none⟩))) y = .agg cs) (hs : (P.info? t).map (·.size) = some cs.size) (hzs : z.cells.size = cs.size) (h1 : cs.all (·.oneCell') = true)
    (h : ∀ w', Rep w0 w' (os ++ [.cells cs t]) → RF P n ops rest Q (upd f d (.pointer (some ⟨w0.heap.size + os.length, 0, none⟩))) w') : RF P n ops (o :: o' :: rest) Q f w := by
  refine RF.alloc t z hr hg hd hn ho hz (fun w1 r1 => ?_)
  refine RF.storeRow t t _ y os.length z.cells cs r1 (by simp) hg' hd' ho' (by rw [ev_tmp, upd_same]) hy hs hzs h1 (fun w2 r2 => h w2 ?_)
  simpa using r2

theorem RF.loadA (t : TypeId) (x : Operand) (td : TypeDesc) (p : Addr) (v : Value) (hg : o.guard = none) (hd : o.dst = some d) (hn : d < n) (ho : o.op = .load t x) (hu : P.underlying t = some td) (htd : td.isRow = false) (hx : ev f x = .pointer (some p))
    (hc : w.cell? p = some v) (h : RF P n ops rest Q (upd f d v) w) : RF P n ops (o :: rest) Q f w :=
  RF.val v w hg hd hn (x_loadA t x td p v ho hu htd hx hc) h
end

/-! ### Parts of a code -/
/-- The bodies of the loops, in the text's order. -/
def loops : Code → List Code
  | .loop c => c :: loops c
  | .seq x y => loops x ++ loops y
  | .block _ c => loops c
  | .scope c => loops c
  | .cond _ x y => loops x ++ loops y
  | _ => []

/-- The number of a code's first region. -/
def firstRegion : Code → Option Nat
  | .region k _ _ => some k
  | .seq x y => (firstRegion x).or (firstRegion y)
  | .block _ c => firstRegion c
  | .scope c => firstRegion c
  | .loop c => firstRegion c
  | .cond _ x y => (firstRegion x).or (firstRegion y)
  | _ => none

/-- What follows from the statement that opens with region m. -/
def tailFrom (m : Nat) : Code → Code
  | .seq x y => if firstRegion x = some m then .seq x y else tailFrom m y
  | c => c

end Go.Proofs.YbulkebhgDoor

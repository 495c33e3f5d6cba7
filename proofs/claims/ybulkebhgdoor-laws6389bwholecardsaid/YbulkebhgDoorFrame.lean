/-
  A WALK OVER AN ABSTRACT FRAME: the frame's slots as a function 'Nat → Value'. Laws for code, plain regions and quiet regions that speak of such a function; no frame is ever written out.
-/
import Derived.Test.YbulkebhgDoorRows
import Derived.WalkKit
import Derived.Deep.Quiet
import Derived.Below
namespace Go.Proofs.YbulkebhgDoor

/-- What an operand is in the frame f. -/
def ev (f : Nat → Value) : Operand → Value
  | .tmp t => f t
  | .const v => v
  | .global g => .pointer (some ⟨g, 0, none⟩)
  | .func g => .func (.func g) #[] #[]

/-- The frame f, slot d written. -/
def upd (f : Nat → Value) (d : Nat) (v : Value) : Nat → Value := fun t => if t = d then v else f t

theorem upd_same (f : Nat → Value) (d : Nat) (v : Value) : upd f d v d = v := if_pos rfl
theorem upd_ne (f : Nat → Value) (d t : Nat) (v : Value) (h : t ≠ d) : upd f d v t = f t := if_neg h
theorem upd_at (f : Nat → Value) (d t : Nat) (v : Value) : upd f d v t = if t = d then v else f t := rfl
theorem ev_tmp (f : Nat → Value) (t : Nat) : ev f (.tmp t) = f t := rfl
theorem ev_const (f : Nat → Value) (v : Value) : ev f (.const v) = v := rfl

/-- The activation's frame of n slots is f; nothing is deferred. -/
def Fr (n : Nat) (a : Act) (f : Nat → Value) : Prop := a.tmps.size = n ∧ a.defers = [] ∧ a.eval = ev f

theorem Fr.put {n : Nat} {a : Act} {f : Nat → Value} (h : Fr n a f) {d : Nat} (hd : d < n) (v : Value) : Fr n (a.put (some d) v) (upd f d v) := by
  obtain ⟨h1, h2, h3⟩ := h
  refine ⟨by simp [Act.put, h1], by simp [Act.put, h2], ?_⟩
  funext x
  cases x with
  | tmp t =>
    have ht : a.eval (.tmp t) = f t := by rw [h3]; rfl
    by_cases e : t = d
    · subst e
      rw [ev_tmp, upd_same]
      simp [Act.put, Act.eval, h1, hd]
    · rw [ev_tmp, upd_ne _ _ _ _ e, ← ht]
      simp [Act.put, Act.eval, Array.getD_eq_getD_getElem?, Ne.symm e]
  | const v => rfl
  | global g => rfl
  | func g => rfl

theorem Fr.put' {n : Nat} {a : Act} {f : Nat → Value} (h : Fr n a f) {o : Option Nat} {d : Nat} (ho : o = some d) (hd : d < n) (v : Value) : Fr n (a.put o v) (upd f d v) := by
  subst ho; exact h.put hd v

theorem Fr.start {n : Nat} (args : Array Value) (hn : args.size ≤ n) : Fr n { tmps := args ++ Array.replicate (n - args.size) undef, defers := [] } (fun t => (args ++ Array.replicate (n - args.size) undef).getD t undef) := by
  refine ⟨by simp; omega, rfl, ?_⟩
  funext x
  cases x <;> rfl

/-- What holds at an exit, said of the frame as a function. -/
def lift (n : Nat) (Q : Exit → (Nat → Value) → World → Prop) : Exit → Act → World → Prop := fun e a w => ∃ f, Fr n a f ∧ Q e f w

def CF (P : Program) (n : Nat) (c : Code) (Q : Exit → (Nat → Value) → World → Prop) (f : Nat → Value) (w : World) : Prop := ∀ a, Fr n a f → c.wp P (lift n Q) a w

def thenF (K : (Nat → Value) → World → Prop) (Q : Exit → (Nat → Value) → World → Prop) : Exit → (Nat → Value) → World → Prop
  | .normal, f, w => K f w
  | e, f, w => Q e f w

def inBlockF (id : Nat) (Q : Exit → (Nat → Value) → World → Prop) : Exit → (Nat → Value) → World → Prop
  | .exit id', f, w => if id' = id then Q .normal f w else Q (.exit id') f w
  | e, f, w => Q e f w

section
variable {P : Program} {n : Nat} {Q : Exit → (Nat → Value) → World → Prop} {f : Nat → Value} {w : World}

theorem CF.mono {c : Code} {Q' : Exit → (Nat → Value) → World → Prop} (h : CF P n c Q f w) (hq : ∀ e f w, Q e f w → Q' e f w) : CF P n c Q' f w :=
  fun a ha => wp_mono (h a ha) fun _ _ _ ⟨g, h1, h2⟩ => ⟨g, h1, hq _ _ _ h2⟩

theorem CF.seq {x y : Code} (h : CF P n x (thenF (CF P n y Q) Q) f w) : CF P n (Code.seq x y) Q f w := fun a ha => by
  refine wp_seq (wp_mono (h a ha) ?_)
  rintro e a' w' ⟨g, h1, h2⟩
  cases e with
  | normal => exact h2 a' h1
  | exit id => exact ⟨g, h1, h2⟩
  | goto l => exact ⟨g, h1, h2⟩
  | ret => exact ⟨g, h1, h2⟩
  | panic ch => exact ⟨g, h1, h2⟩
  | outgrown => exact ⟨g, h1, h2⟩

theorem CF.block {id : Nat} {c : Code} (h : CF P n c (inBlockF id Q) f w) : CF P n (Code.block id c) Q f w := fun a ha => by
  refine wp_block (wp_mono (h a ha) ?_)
  rintro e a' w' ⟨g, h1, h2⟩
  cases e with
  | exit id' =>
    simp only [Exit.inBlock, inBlockF] at *
    split
    · rename_i hid; rw [if_pos hid] at h2; exact ⟨g, h1, h2⟩
    · rename_i hid; rw [if_neg hid] at h2; exact ⟨g, h1, h2⟩
  | normal => exact ⟨g, h1, h2⟩
  | goto l => exact ⟨g, h1, h2⟩
  | ret => exact ⟨g, h1, h2⟩
  | panic ch => exact ⟨g, h1, h2⟩
  | outgrown => exact ⟨g, h1, h2⟩

theorem CF.skip (h : Q .normal f w) : CF P n Code.skip Q f w := fun _ ha => wp_skip ⟨f, ha, h⟩
theorem CF.ret (h : Q .ret f w) : CF P n Code.ret Q f w := fun _ ha => wp_ret ⟨f, ha, h⟩
theorem CF.exit {id : Nat} (h : Q (.exit id) f w) : CF P n (Code.exit id) Q f w := fun _ ha => wp_exit ⟨f, ha, h⟩

theorem CF.condT {c : Operand} {x y : Code} (hc : ev f c = .bool true) (h : CF P n x Q f w) : CF P n (Code.cond c x y) Q f w :=
  fun a ha => wp_cond_true (by rw [ha.2.2]; exact hc) (h a ha)
theorem CF.condF {c : Operand} {x y : Code} (hc : ev f c = .bool false) (h : CF P n y Q f w) : CF P n (Code.cond c x y) Q f w :=
  fun a ha => wp_cond_false (by rw [ha.2.2]; exact hc) (h a ha)
theorem CF.condB {c : Operand} {x y : Code} (b : Bool) (hc : ev f c = .bool b) (ht : b = true → CF P n x Q f w) (hf : b = false → CF P n y Q f w) : CF P n (Code.cond c x y) Q f w := by
  cases b
  · exact CF.condF hc (hf rfl)
  · exact CF.condT hc (ht rfl)

theorem CF.loop {c : Code} (I : (Nat → Value) → World → Prop) (μ : (Nat → Value) → World → Nat) (h0 : I f w)
    (round : ∀ f w, I f w → CF P n c (thenF (fun f' w' => I f' w' ∧ μ f' w' < μ f w) Q) f w) : CF P n (Code.loop c) Q f w := fun a ha => by
  refine wp_loop (fun a w => ∃ f, Fr n a f ∧ I f w) (fun a w => μ (fun t => a.eval (.tmp t)) w) ⟨f, ha, h0⟩ ?_
  rintro a1 w1 ⟨f1, hf1, hI⟩
  refine wp_mono (round f1 w1 hI a1 hf1) ?_
  rintro e a2 w2 ⟨f2, hf2, h2⟩
  have e1 : (fun t => a1.eval (.tmp t)) = f1 := by rw [hf1.2.2]; rfl
  have e2 : (fun t => a2.eval (.tmp t)) = f2 := by rw [hf2.2.2]; rfl
  cases e with
  | normal =>
    show (∃ f, Fr n a2 f ∧ I f w2) ∧ _
    rw [e1, e2]
    exact ⟨⟨f2, hf2, h2.1⟩, h2.2⟩
  | exit id => exact ⟨f2, hf2, h2⟩
  | goto l => exact ⟨f2, hf2, h2⟩
  | ret => exact ⟨f2, hf2, h2⟩
  | panic ch => exact ⟨f2, hf2, h2⟩
  | outgrown => exact ⟨f2, hf2, h2⟩

/-- The operations of a plain region, over the frame as a function. -/
def RF (P : Program) (n : Nat) (ops : Array Oper) (l : List Oper) (Q : Exit → (Nat → Value) → World → Prop) (f : Nat → Value) (w : World) : Prop := ∀ a, Fr n a f → wpList P ops (lift n Q) l a w

theorem CF.region {id : Nat} {ops : Array Oper} (h : RF P n ops ops.toList Q f w) : CF P n (Code.region id ops false) Q f w :=
  fun a ha => wp_region_list (h a ha)

variable {ops : Array Oper} {o : Oper} {rest : List Oper}

theorem RF.nil (h : Q .normal f w) : RF P n ops [] Q f w := fun _ ha => wpList_nil ⟨f, ha, h⟩

/-- .. and the code goes on. -/
theorem RF.done {y : Code} (h : CF P n y Q f w) : RF P n ops [] (thenF (CF P n y Q) Q) f w := RF.nil h

/-- The operation yields a value. -/
theorem RF.val {d : Nat} (v : Value) (w' : World) (hg : o.guard = none) (hd : o.dst = some d) (hn : d < n) (hrun : (execOp (ev f) o).run P w = .ok (.value v) w')
    (h : RF P n ops rest Q (upd f d v) w') : RF P n ops (o :: rest) Q f w := fun a ha => by
  refine wpList_plain hg fun K hK => ?_
  unfold Oper.wp
  rw [ha.2.2, hrun, Oper.upon_value]
  exact hK _ _ (h _ (ha.put' hd hn v))

/-- The operation yields nothing (a store). -/
theorem RF.unit (w' : World) (hg : o.guard = none) (hd : o.dst = none) (hrun : (execOp (ev f) o).run P w = .ok .skip w') (h : RF P n ops rest Q f w') : RF P n ops (o :: rest) Q f w := fun a ha => by
  refine wpList_plain hg fun K hK => ?_
  unfold Oper.wp
  rw [ha.2.2, hrun, Oper.upon_skip, hd]
  exact hK _ _ (h _ ha)

/-- The operation calls a Go function. -/
theorem RF.call {d : Nat} (g : FuncId) (args : Array Value) (hg : o.guard = none) (hd : o.dst = some d) (hn : d < n) (hrun : (execOp (ev f) o).run P w = .ok (.enter g args) w)
    {R : Value → World → Prop} (hc : Calls P g args w fun e w' => ∃ v, e = .returned v ∧ R v w') (h : ∀ v w', R v w' → RF P n ops rest Q (upd f d v) w') : RF P n ops (o :: rest) Q f w := fun a ha => by
  refine wpList_plain hg fun K hK => ?_
  unfold Oper.wp
  rw [ha.2.2, hrun, Oper.upon_enter]
  refine hc.mono ?_
  rintro e w' ⟨v, rfl, hr⟩
  exact hK _ _ (h v w' hr _ (ha.put' hd hn v))

theorem wanted_of {a : Act} (ha : Fr n a f) {j t : Nat} {b b' : Bool} (hg : o.guard = some (j, b)) (hj : (ops[j]?).bind (·.dst) = some t) (hn : t < n) (hv : f t = .bool b') :
    Region.wanted o (yielded ops a.tmps) = (b' == b) := by
  have e : a.tmps[t]? = some (.bool b') := by
    have h1 : a.eval (.tmp t) = .bool b' := by rw [ha.2.2, ev_tmp, hv]
    have h2 : t < a.tmps.size := by rw [ha.1]; exact hn
    simp [Act.eval, h2] at h1
    simp [h2, h1]
  simp [Region.wanted, hg, yielded, hj, e]

/-- A guarded operation that is carried out. -/
theorem RF.valG {d : Nat} (v : Value) (w' : World) {j t : Nat} {b : Bool} (hg : o.guard = some (j, b)) (hj : (ops[j]?).bind (·.dst) = some t) (ht : t < n) (hv : f t = .bool b) (hd : o.dst = some d) (hn : d < n)
    (hrun : (execOp (ev f) o).run P w = .ok (.value v) w') (h : RF P n ops rest Q (upd f d v) w') : RF P n ops (o :: rest) Q f w := fun a ha => by
  refine wpList_step fun K hK => ?_
  rw [if_pos (by rw [wanted_of ha hg hj ht hv]; simp)]
  unfold Oper.wp
  rw [ha.2.2, hrun, Oper.upon_value]
  exact hK _ _ (h _ (ha.put' hd hn v))

/-- A guarded operation that is passed over. -/
theorem RF.skipG {d : Nat} {j t : Nat} {b : Bool} (hg : o.guard = some (j, b)) (hj : (ops[j]?).bind (·.dst) = some t) (ht : t < n) (hv : f t = .bool (!b)) (hd : o.dst = some d) (hn : d < n)
    (h : RF P n ops rest Q (upd f d undef) w) : RF P n ops (o :: rest) Q f w := fun a ha => by
  refine wpList_step fun K hK => ?_
  rw [if_neg (by rw [wanted_of ha hg hj ht hv]; simp)]
  exact hK _ _ (h _ (ha.put' hd hn undef))

/-! ### Quiet regions -/
def QF (P : Program) (n : Nat) (ops : Array Oper) (C : World → Prop) (l : List Oper) (R : (Nat → Value) → Prop) (f : Nat → Value) : Prop := ∀ a, Fr n a f → wpQuiet P ops C (fun a' => ∃ f', Fr n a' f' ∧ R f') l a

variable {C : World → Prop} {R : (Nat → Value) → Prop}

theorem CF.quiet {id : Nat} (C : World → Prop) (hm : P.follows .mixedOrders = true) (hB : Region.lexB .any ops = true) (hC : C { w with drawn := w.drawn + 1 })
    (h : QF P n ops C ops.toList (fun f' => ∀ w', C w' → Q .normal f' w') f) : CF P n (Code.region id ops true) Q f w := fun a ha => by
  refine wp_region_quiet (C := C) hm hB hC ?_
  have h1 := h a ha
  revert h1
  suffices H : ∀ (l : List Oper) (a : Act), wpQuiet P ops C (fun a' => ∃ f', Fr n a' f' ∧ ∀ w', C w' → Q .normal f' w') l a → wpQuiet P ops C (fun a' => ∀ w', C w' → lift n Q .normal a' w') l a from H _ _
  intro l
  induction l with
  | nil => rintro a ⟨f', h1, h2⟩ w' hw'; exact ⟨f', h1, h2 w' hw'⟩
  | cons o l ih =>
    intro a h
    unfold wpQuiet at h ⊢
    split at h
    · rename_i hw; rw [if_pos hw]; exact Oper.quiet_mono ih h
    · rename_i hw; rw [if_neg hw]; exact ih _ h

theorem QF.nil (h : R f) : QF P n ops C [] R f := fun _ ha => wpQuiet_nil ⟨f, ha, h⟩

theorem QF.val {d : Nat} (v : Value) (hg : o.guard = none) (hd : o.dst = some d) (hn : d < n) (hrun : ∀ w, C w → (execOp (ev f) o).run P w = .ok (.value v) w)
    (h : QF P n ops C rest R (upd f d v)) : QF P n ops C (o :: rest) R f := fun a ha => by
  refine wpQuiet_step fun K hK => ?_
  rw [if_pos (by simp [Region.wanted, hg])]
  refine ⟨v, fun w hw => ?_, hK _ (h _ (ha.put' hd hn v))⟩
  unfold Oper.quietAt
  rw [ha.2.2, hrun w hw]
  exact ⟨rfl, rfl⟩

theorem QF.call {d : Nat} (g : FuncId) (args : Array Value) (v : Value) (hg : o.guard = none) (hd : o.dst = some d) (hn : d < n) (hrun : ∀ w, C w → (execOp (ev f) o).run P w = .ok (.enter g args) w)
    (hc : ∀ w, C w → Calls P g args w fun e w' => e = .returned v ∧ C w') (h : QF P n ops C rest R (upd f d v)) : QF P n ops C (o :: rest) R f := fun a ha => by
  refine wpQuiet_step fun K hK => ?_
  rw [if_pos (by simp [Region.wanted, hg])]
  refine ⟨v, fun w hw => ?_, hK _ (h _ (ha.put' hd hn v))⟩
  unfold Oper.quietAt
  rw [ha.2.2, hrun w hw]
  exact ⟨rfl, hc w hw⟩

theorem QF.valG {d : Nat} (v : Value) {j t : Nat} {b : Bool} (hg : o.guard = some (j, b)) (hj : (ops[j]?).bind (·.dst) = some t) (ht : t < n) (hv : f t = .bool b) (hd : o.dst = some d) (hn : d < n)
    (hrun : ∀ w, C w → (execOp (ev f) o).run P w = .ok (.value v) w) (h : QF P n ops C rest R (upd f d v)) : QF P n ops C (o :: rest) R f := fun a ha => by
  refine wpQuiet_step fun K hK => ?_
  rw [if_pos (by rw [wanted_of ha hg hj ht hv]; simp)]
  refine ⟨v, fun w hw => ?_, hK _ (h _ (ha.put' hd hn v))⟩
  unfold Oper.quietAt
  rw [ha.2.2, hrun w hw]
  exact ⟨rfl, rfl⟩

theorem QF.skipG {d : Nat} {j t : Nat} {b : Bool} (hg : o.guard = some (j, b)) (hj : (ops[j]?).bind (·.dst) = some t) (ht : t < n) (hv : f t = .bool (!b)) (hd : o.dst = some d) (hn : d < n)
    (h : QF P n ops C rest R (upd f d undef)) : QF P n ops C (o :: rest) R f := fun a ha => by
  refine wpQuiet_step fun K hK => ?_
  rw [if_neg (by rw [wanted_of ha hg hj ht hv]; simp)]
  exact hK _ (h _ (ha.put' hd hn undef))

end

/-- What is asked at the end of a body: what is handed back is read there. -/
def endF (P : Program) (fn : Func) (R : Ending → World → Prop) : Exit → (Nat → Value) → World → Prop
  | .ret, f, w => ∃ v, (∀ tmps : Array Value, (∀ t, tmps.getD t undef = f t) → (results fn tmps).run P w = .ok v w) ∧ R (.returned v) w
  | _, _, _ => False

/-- A call: the body walked over the frame as a function. -/
theorem calls_of_CF {P : Program} {g : FuncId} {fn : Func} {c : Code} {args : Array Value} {w : World} {R : Ending → World → Prop} (n : Nat) (hf : P.funcs[g]? = some fn) (hb : fn.body = some c) (hnt : fn.ntmps = n) (hn : args.size ≤ n)
    (h : ∀ f, f = (fun t => (args ++ Array.replicate (n - args.size) undef).getD t undef) → CF P n c (endF P fn R) f w) : Calls P g args w R := by
  subst hnt
  refine calls_of_wp hf hb (wp_mono (h _ rfl _ (Fr.start args hn)) ?_)
  rintro e a w' ⟨f, hF, hq⟩
  cases e with
  | ret =>
    obtain ⟨v, hr, hR⟩ := hq
    refine bodyPost_ret (hr a.tmps fun t => ?_) hF.2.1 hR
    have := congrFun hF.2.2 (.tmp t)
    exact this
  | normal => exact hq.elim
  | exit id => exact hq.elim
  | goto l => exact hq.elim
  | panic ch => exact hq.elim
  | outgrown => exact hq.elim

/-- An argument's slot at the start. -/
theorem start_at {f : Nat → Value} {args : Array Value} {n : Nat} (hf : f = (fun t => (args ++ Array.replicate (n - args.size) undef).getD t undef)) (i : Nat) (h : i < args.size) : f i = args[i] := by
  subst hf
  have h2 : i < (args ++ Array.replicate (n - args.size) undef).size := by simp; omega
  simp only [Array.getD_eq_getD_getElem?, Array.getElem?_append_left h]
  simp [h]

/-- The result lies in a slot. -/
theorem endF_tmp {P : Program} {fn : Func} {R : Ending → World → Prop} {f : Nat → Value} {w : World} {t : Nat} (hr : fn.results = #[.tmp t]) (h : R (.returned (f t)) w) : endF P fn R .ret f w :=
  ⟨f t, fun tmps ht => by rw [results_tmp hr, ht], h⟩

/-- Region m's operations, looked up in a code. -/
def regionOf (m : Nat) : Code → Option (Array Oper)
  | .region k ops _ => if k = m then some ops else none
  | .seq x y => (regionOf m x).or (regionOf m y)
  | .block _ c => regionOf m c
  | .scope c => regionOf m c
  | .loop c => regionOf m c
  | .cond _ x y => (regionOf m x).or (regionOf m y)
  | _ => none

end Go.Proofs.YbulkebhgDoor

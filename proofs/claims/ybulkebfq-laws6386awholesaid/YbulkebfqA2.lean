/-
  LawS6386AWhole: the walk.
-/
import Derived.Test.YbulkebfqA1
namespace Go.Proofs.Ybulkebfq
open Go.RowKit
set_option linter.unusedSimpArgs false
set_option linter.unusedVariables false

/-- The then-branch of the statement that opens with region m. -/
def thenAt (m : Nat) : Code → Code
  | .seq (.seq (.region k ops d) (.cond c x y)) r => if k = m then x else thenAt m r
  | .seq _ r => thenAt m r
  | c => c

theorem neq32_same (w : World) (p : Addr) : (binOp .neq 32 (.pointer (some p)) (.pointer (some p))).run Yba.prog w = .ok (.bool false) w := by
  have hj : ∃ j, Yba.prog.info? 5 = some j := Option.isSome_iff_exists.1 (by kernel_rfl)
  obtain ⟨j, hj⟩ := hj
  exact Lib.run_neq_ptr_same w p Yba.underlying32 hj
theorem neq25_same (w : World) (p : Addr) : (binOp .neq 25 (.iface 61 (.pointer (some p))) (.iface 61 (.pointer (some p)))).run Yba.prog w = .ok (.bool false) w := by
  have hj : ∃ j, Yba.prog.info? 63 = some j := Option.isSome_iff_exists.1 (by kernel_rfl)
  have hi : ∃ i, Yba.prog.info? 61 = some i ∧ i.comparable = true := by
    have h : (Yba.prog.info? 61).map (·.comparable) = some true := by kernel_rfl
    obtain ⟨i, h1, h2⟩ := Option.map_eq_some_iff.1 h
    exact ⟨i, h1, h2⟩
  obtain ⟨j, hj⟩ := hj
  obtain ⟨i, hi, hc⟩ := hi
  simp only [binOp]
  simp [Op.equal, Op.maxDepth, run_equalIn_iface_ptr_same w 9998 p Yba.underlying25 Yba.underlying61 hi hc hj]
theorem cap22 (w : World) (a : Option Addr) (n c : Nat) (ty : TypeId) : (Builtin.cap_ #[22] ty #[.slice a n c]).run Yba.prog w = .ok (.int .i64 c) w := by
  simp [Builtin.cap_, run_underlying Yba.underlying22, goInt]
theorem x_cap {P : Program} {w : World} {ρ : Operand → Value} {o : Oper} (x : Operand) (t : TypeId) (u v : Value) (ho : o.op = .call { callee := .builtin .cap, args := #[x], argTypes := #[t] }) (hx : ρ x = u) (hr : (Builtin.cap_ #[t] o.type #[u]).run P w = .ok v w) : (execOp ρ o).run P w = .ok (.value v) w := by
  simp [execOp, ho, resolve, invoke, builtin, hx, hr, Result.andThen]
theorem conv3 (w : World) (k : Nat) (h : k ≤ 1048576) : (convert 23 3 (.int .u64 (k : Int))).run Yba.prog w = .ok (.int .i64 (k : Int)) w := by
  have e : IntKind.i64.wrap (k : Int) = k := IntWalk.i64_in _ (by omega)
  simp [go_sem, Yba.underlying3, Yba.underlying23, e]
theorem add_head (b j : Nat) : (⟨b, 0, none⟩ : Addr).add j = ⟨b, j, none⟩ := by rw [Addr.add_mid, Nat.zero_add]

/-- What is known of b and of its copy c. -/
structure Rows2 (w0 : World) (a ca : Option Addr) (m : Nat) (z : Nat → Int) (x : Addr) (os : List Obj) : Prop where
  hm : m ≤ 1048576
  nils : ca.isNone = a.isNone
  ax : 0 < m → a = some x
  cx : 0 < m → ca = some ⟨w0.heap.size, 0, none⟩
  xs : ∀ i, i < m → w0.cell? (x.add i) = some (.int .u8 (z i))
  cs : ∃ cc : Array Value, (0 < m → os[0]? = some (.cells cc 5)) ∧ ∀ i, i < m → cc[i]? = some (.int .u8 (z i))

theorem Rows2.append {w0 : World} {a ca : Option Addr} {m : Nat} {z : Nat → Int} {x : Addr} {os : List Obj} (h : Rows2 w0 a ca m z x os) (l : List Obj) : Rows2 w0 a ca m z x (os ++ l) :=
  ⟨h.hm, h.nils, h.ax, h.cx, h.xs, by obtain ⟨cc, h1, h2⟩ := h.cs; exact ⟨cc, fun hm => app_at (h1 hm), h2⟩⟩
theorem Rows2.ccell {w0 w : World} {a ca : Option Addr} {m : Nat} {z : Nat → Int} {x : Addr} {os : List Obj} (h : Rows2 w0 a ca m z x os) (hX : RepX w0 w os) (i : Nat) (hi : i < m) : w.cell? ((⟨w0.heap.size, 0, none⟩ : Addr).add i) = some (.int .u8 (z i)) := by
  obtain ⟨cc, h1, h2⟩ := h.cs
  rw [add_head]
  exact cell_at (hX.block (i := 0) (h1 (by omega))) (h2 i hi)
theorem Rows2.bcell {w0 w : World} {a ca : Option Addr} {m : Nat} {z : Nat → Int} {x : Addr} {os : List Obj} (h : Rows2 w0 a ca m z x os) (hX : RepX w0 w os) (i : Nat) (hi : i < m) : w.cell? (x.add i) = some (.int .u8 (z i)) := hX.cell (h.xs i hi)

section
variable {w0 w : World} {a ca : Option Addr} {m c0 : Nat} {z : Nat → Int} {x : Addr} {os : List Obj} {f : Nat → Value}

set_option maxHeartbeats 1000000 in
theorem tailA23 {I : Nat} {er : Value} {Q : Exit → (Nat → Value) → World → Prop} (hR : Rows2 w0 a ca m z x os) (hX : RepX w0 w os) (hI : os[I]? = some (.cells #[.slice ca m m, er] 29))
    (f0 : f 0 = .slice a m c0) (f7 : f 7 = .slice ca m m) (f9 : f 9 = .pointer (some ⟨w0.heap.size + I, 0, none⟩)) (hQ : ∀ f' w', f' 6 = .bool true → Below w0.heap.size w0 w' → Q .ret f' w') :
    CF Yba.prog 179 (tailFrom 23 (thenAt 15 (Yba.f3.body.getD .skip))) Q f w := by
  refine CF.seq (CF.seq (CF.region ?_))
  -- region 23
  refine RF.move _ (.pointer (some ⟨w0.heap.size + I, 0, none⟩)) rfl rfl (by decide) rfl (by simp [ev, upd, f0, f7, f9]) ?_
  refine RF.run (.pointer (some ⟨w0.heap.size + I, 0, none⟩)) rfl rfl (by decide) (by simp [execOp, ev, upd, eqGuard, f0, f7, f9]) ?_
  refine RF.run (.pointer (some ⟨w0.heap.size + I, 0, none⟩)) rfl rfl (by decide) (by simp [execOp, ev, upd, eqGuard, f0, f7, f9, field29_0]) ?_
  refine RF.run (.slice ca m m) rfl rfl (by decide) (x_loadA 22 _ _ (⟨w0.heap.size + I, 0, none⟩) (.slice ca m m) rfl Yba.underlying22 rfl (by simp [ev, upd, f0, f7, f9]) (cell_at (hX.block hI) rfl)) ?_
  refine RF.move _ (.slice a m c0) rfl rfl (by decide) rfl (by simp [ev, upd, f0, f7, f9]) ?_
  refine RF.call 7 #[.slice ca m m, .slice a m c0] rfl rfl (by decide) (x_call 7 _ _ _ _ rfl Yba.func7 (by kernel_rfl) rfl (by simp [ev, upd, f0, f7, f9]) rfl) (eq_any _ m m c0 ca a z ⟨w0.heap.size, 0, none⟩ x hR.nils hR.cx hR.ax hR.hm (hR.ccell hX) (hR.bcell hX)) (fun v w1 hv => ?_)
  obtain ⟨rfl, r1⟩ := hv
  have hX1 := hX.grow r1
  refine RF.run (.bool false) rfl rfl (by decide) (by simp [execOp, ev, upd, eqGuard, f0, f7, f9, go_sem]) ?_
  refine RF.done (CF.condF (by simp [ev, upd]) (CF.skip ?_))
  show CF _ _ _ _ _ _
  refine CF.seq (CF.seq (CF.quiet (fun w' => RepX w0 w' os) (by kernel_rfl) (by kernel_rfl) (hX1.drawn _) ?_))
  by_cases hm : 0 < m
  · have hc := hR.cx hm
    subst hc
    -- region 25
    refine QF.move _ (.slice (some ⟨w0.heap.size, 0, none⟩) m m) rfl rfl (by decide) rfl (by simp [ev, upd, f0, f7, f9]) ?_
    refine QF.val (.int .i64 (m : Int)) rfl rfl (by decide) (fun w hw => (x_len _ 22 (.slice (some ⟨w0.heap.size, 0, none⟩) m m) _ rfl (by simp [ev, upd, f0, f7, f9]) (len22 _ _ _ _ _))) ?_
    refine QF.val (.bool true) rfl rfl (by decide) (fun w hw => (by simp [execOp, ev, upd, eqGuard, f0, f7, f9, go_sem, hm])) ?_
    refine QF.move _ (.bool true) rfl rfl (by decide) rfl (by simp [ev, upd, f0, f7, f9]) ?_
    refine QF.valG (.pointer (some ⟨w0.heap.size + I, 0, none⟩)) (t := 72) rfl rfl (by decide) (by simp [ev, upd, f0, f7, f9]) rfl (by decide) (fun w _ => (by simp [execOp, ev, upd, f0, f7, f9])) ?_
    refine QF.valG (.pointer (some ⟨w0.heap.size + I, 0, none⟩)) (t := 72) rfl rfl (by decide) (by simp [ev, upd, f0, f7, f9]) rfl (by decide) (fun w hw => (by simp [execOp, ev, upd, eqGuard, f0, f7, f9])) ?_
    refine QF.valG (.pointer (some ⟨w0.heap.size + I, 0, none⟩)) (t := 72) rfl rfl (by decide) (by simp [ev, upd, f0, f7, f9]) rfl (by decide) (fun w hw => (by simp [execOp, ev, upd, eqGuard, f0, f7, f9, field29_0])) ?_
    refine QF.valG (.slice (some ⟨w0.heap.size, 0, none⟩) m m) (t := 72) rfl rfl (by decide) (by simp [ev, upd, f0, f7, f9]) rfl (by decide) (fun w hw => (x_loadA 22 _ _ (⟨w0.heap.size + I, 0, none⟩) (.slice (some ⟨w0.heap.size, 0, none⟩) m m) rfl Yba.underlying22 rfl (by simp [ev, upd, f0, f7, f9]) (cell_at (RepX.block hw hI) rfl))) ?_
    refine QF.valG (.pointer (some ⟨w0.heap.size, 0, none⟩)) (t := 72) rfl rfl (by decide) (by simp [ev, upd, f0, f7, f9]) rfl (by decide) (fun w hw => (by simp [execOp, ev, upd, eqGuard, f0, f7, f9, index22_0 _ _ m m hm])) ?_
    refine QF.valG (.slice (some ⟨w0.heap.size, 0, none⟩) m m) (t := 72) rfl rfl (by decide) (by simp [ev, upd, f0, f7, f9]) rfl (by decide) (fun w _ => (by simp [execOp, ev, upd, f0, f7, f9])) ?_
    refine QF.valG (.pointer (some ⟨w0.heap.size, 0, none⟩)) (t := 72) rfl rfl (by decide) (by simp [ev, upd, f0, f7, f9]) rfl (by decide) (fun w hw => (by simp [execOp, ev, upd, eqGuard, f0, f7, f9, index22_0 _ _ m m hm])) ?_
    refine QF.valG (.bool false) (t := 72) rfl rfl (by decide) (by simp [ev, upd, f0, f7, f9]) rfl (by decide) (fun w hw => (by simp [execOp, ev, upd, eqGuard, f0, f7, f9, neq32_same])) ?_
    refine QF.val (.bool false) rfl rfl (by decide) (fun w hw => (by simp [execOp, ev, upd, eqGuard, f0, f7, f9, asBool])) ?_
    refine QF.nil fun w2 hX2 => ?_
    show CF _ _ _ _ _ _
    refine CF.condF (by simp [ev, upd]) (CF.skip ?_)
    show CF _ _ _ _ _ _
    refine CF.seq (CF.region ?_)
    -- region 27
    refine RF.assign _ (.bool true) rfl rfl (by decide) rfl (by simp [ev, upd, f0, f7, f9]) ?_
    refine RF.done (CF.ret ?_)
    exact hQ _ _ (by simp [upd]) hX2.below
  · have hm0 : m = 0 := by omega
    subst hm0
    -- region 25
    refine QF.move _ (.slice ca 0 0) rfl rfl (by decide) rfl (by simp [ev, upd, f0, f7, f9]) ?_
    refine QF.val (.int .i64 0) rfl rfl (by decide) (fun w hw => (x_len _ 22 (.slice ca 0 0) _ rfl (by simp [ev, upd, f0, f7, f9]) (len22 _ _ _ _ _))) ?_
    refine QF.val (.bool false) rfl rfl (by decide) (fun w hw => (by simp [execOp, ev, upd, eqGuard, f0, f7, f9, go_sem])) ?_
    refine QF.move _ (.bool false) rfl rfl (by decide) rfl (by simp [ev, upd, f0, f7, f9]) ?_
    refine QF.skipG (t := 72) rfl rfl (by decide) (by simp [ev, upd, f0, f7, f9]) rfl (by decide) ?_
    refine QF.skipG (t := 72) rfl rfl (by decide) (by simp [ev, upd, f0, f7, f9]) rfl (by decide) ?_
    refine QF.skipG (t := 72) rfl rfl (by decide) (by simp [ev, upd, f0, f7, f9]) rfl (by decide) ?_
    refine QF.skipG (t := 72) rfl rfl (by decide) (by simp [ev, upd, f0, f7, f9]) rfl (by decide) ?_
    refine QF.skipG (t := 72) rfl rfl (by decide) (by simp [ev, upd, f0, f7, f9]) rfl (by decide) ?_
    refine QF.skipG (t := 72) rfl rfl (by decide) (by simp [ev, upd, f0, f7, f9]) rfl (by decide) ?_
    refine QF.skipG (t := 72) rfl rfl (by decide) (by simp [ev, upd, f0, f7, f9]) rfl (by decide) ?_
    refine QF.skipG (t := 72) rfl rfl (by decide) (by simp [ev, upd, f0, f7, f9]) rfl (by decide) ?_
    refine QF.val (.bool false) rfl rfl (by decide) (fun w hw => (by simp [execOp, ev, upd, eqGuard, f0, f7, f9, asBool])) ?_
    refine QF.nil fun w2 hX2 => ?_
    show CF _ _ _ _ _ _
    refine CF.condF (by simp [ev, upd]) (CF.skip ?_)
    show CF _ _ _ _ _ _
    refine CF.seq (CF.region ?_)
    -- region 27
    refine RF.assign _ (.bool true) rfl rfl (by decide) rfl (by simp [ev, upd, f0, f7, f9]) ?_
    refine RF.done (CF.ret ?_)
    exact hQ _ _ (by simp [upd]) hX2.below

set_option maxHeartbeats 1000000 in
theorem tailA12bad {I : Nat} {er e0 : Value} {fl : Bool} {u : Int} (hR : Rows2 w0 a ca m z x os) (hX : RepX w0 w os) (hI : os[I]? = some (.cells #[.slice ca m m, er] 29))
    (f0 : f 0 = .slice a m c0) (f1 : f 1 = .bool fl) (f2 : f 2 = .int .u64 u) (f7 : f 7 = .slice ca m m) (f8 : f 8 = e0) (f9 : f 9 = .pointer (some ⟨w0.heap.size + I, 0, none⟩)) (f10 : f 10 = .slice none 0 0)
    (hbad : (fl = true ∧ ∃ p, e0 = .iface 61 (.pointer (some p)) ∧ er = .iface 61 (.pointer (some p))) ∨ (fl = false ∧ (m : Int) < u ∧ ∃ t v, er = .iface t v)) :
    CF Yba.prog 179 (tailFrom 12 (Yba.f3.body.getD .skip)) (endF Yba.prog Yba.f3 fun e w' => e = .returned (.bool true) ∧ Below w0.heap.size w0 w') f w := by
  refine CF.seq (CF.seq (CF.region ?_))
  -- region 12
  refine RF.move _ (.slice ca m m) rfl rfl (by decide) rfl (by simp [ev, upd, f0, f1, f2, f7, f8, f9, f10]) ?_
  refine RF.move _ (.slice a m c0) rfl rfl (by decide) rfl (by simp [ev, upd, f0, f1, f2, f7, f8, f9, f10]) ?_
  refine RF.call 7 #[.slice ca m m, .slice a m c0] rfl rfl (by decide) (x_call 7 _ _ _ _ rfl Yba.func7 (by kernel_rfl) rfl (by simp [ev, upd, f0, f1, f2, f7, f8, f9, f10]) rfl) (eq_any _ m m c0 ca a z ⟨w0.heap.size, 0, none⟩ x hR.nils hR.cx hR.ax hR.hm (hR.ccell hX) (hR.bcell hX)) (fun v w1 hv => ?_)
  obtain ⟨rfl, r1⟩ := hv
  have hX1 := hX.grow r1
  refine RF.run (.bool false) rfl rfl (by decide) (by simp [execOp, ev, upd, eqGuard, f0, f1, f2, f7, f8, f9, f10, go_sem]) ?_
  refine RF.done (CF.condF (by simp [ev, upd]) (CF.skip ?_))
  show CF _ _ _ _ _ _
  refine CF.seq (CF.region ?_)
  -- region 14
  refine RF.move _ (.slice ca m m) rfl rfl (by decide) rfl (by simp [ev, upd, f0, f1, f2, f7, f8, f9, f10]) ?_
  refine RF.run (.int .i64 (m : Int)) rfl rfl (by decide) (x_len _ 22 (.slice ca m m) _ rfl (by simp [ev, upd, f0, f1, f2, f7, f8, f9, f10]) (len22 _ _ _ _ _)) ?_
  refine RF.run (.int .u64 (m : Int)) rfl rfl (by decide) (by simp [execOp, ev, upd, eqGuard, f0, f1, f2, f7, f8, f9, f10, conv23 _ m hR.hm]) ?_
  refine RF.assign _ (.int .u64 (m : Int)) rfl rfl (by decide) rfl (by simp [ev, upd, f0, f1, f2, f7, f8, f9, f10]) ?_
  refine RF.done (CF.seq (CF.seq (CF.region ?_)))
  rcases hbad with ⟨rfl, p, rfl, rfl⟩ | ⟨rfl, hu, t, v, rfl⟩
  · -- it had failed before
    -- region 15
    refine RF.move _ (.bool true) rfl rfl (by decide) rfl (by simp [ev, upd, f0, f1, f2, f7, f8, f9, f10]) ?_
    refine RF.move _ (.bool true) rfl rfl (by decide) rfl (by simp [ev, upd, f0, f1, f2, f7, f8, f9, f10]) ?_
    refine RF.skipG (t := 43) rfl rfl (by decide) (by simp [ev, upd, f0, f1, f2, f7, f8, f9, f10]) rfl (by decide) ?_
    refine RF.skipG (t := 43) rfl rfl (by decide) (by simp [ev, upd, f0, f1, f2, f7, f8, f9, f10]) rfl (by decide) ?_
    refine RF.skipG (t := 43) rfl rfl (by decide) (by simp [ev, upd, f0, f1, f2, f7, f8, f9, f10]) rfl (by decide) ?_
    refine RF.run (.bool true) rfl rfl (by decide) (by simp [execOp, ev, upd, eqGuard, f0, f1, f2, f7, f8, f9, f10, asBool]) ?_
    refine RF.done (CF.condT (by simp [ev, upd]) ?_)
    refine CF.seq (CF.seq (CF.region ?_))
    -- region 16
    refine RF.move _ (.slice none 0 0) rfl rfl (by decide) rfl (by simp [ev, upd, f0, f1, f2, f7, f8, f9, f10]) ?_
    refine RF.run (.bool false) rfl rfl (by decide) (by simp [execOp, ev, upd, eqGuard, f0, f1, f2, f7, f8, f9, f10, neqnil22]) ?_
    refine RF.done (CF.condF (by simp [ev, upd]) (CF.skip ?_))
    show CF _ _ _ _ _ _
    refine CF.seq (CF.seq (CF.region ?_))
    -- region 18
    refine RF.move _ (.bool true) rfl rfl (by decide) rfl (by simp [ev, upd, f0, f1, f2, f7, f8, f9, f10]) ?_
    refine RF.done (CF.condT (by simp [ev, upd]) (CF.seq (CF.region ?_)))
    -- region 19
    refine RF.move _ (.pointer (some ⟨w0.heap.size + I, 0, none⟩)) rfl rfl (by decide) rfl (by simp [ev, upd, f0, f1, f2, f7, f8, f9, f10]) ?_
    refine RF.run (.pointer (some ⟨w0.heap.size + I, 0, none⟩)) rfl rfl (by decide) (by simp [execOp, ev, upd, eqGuard, f0, f1, f2, f7, f8, f9, f10]) ?_
    refine RF.run (.pointer (some ⟨w0.heap.size + I, 1, none⟩)) rfl rfl (by decide) (by simp [execOp, ev, upd, eqGuard, f0, f1, f2, f7, f8, f9, f10, field29_1]) ?_
    refine RF.run (.iface 61 (.pointer (some p))) rfl rfl (by decide) (x_loadA 25 _ _ (⟨w0.heap.size + I, 1, none⟩) (.iface 61 (.pointer (some p))) rfl Yba.underlying25 rfl (by simp [ev, upd, f0, f1, f2, f7, f8, f9, f10]) (cell_at (hX1.block hI) rfl)) ?_
    refine RF.move _ (.iface 61 (.pointer (some p))) rfl rfl (by decide) rfl (by simp [ev, upd, f0, f1, f2, f7, f8, f9, f10]) ?_
    refine RF.run (.bool false) rfl rfl (by decide) (by simp [execOp, ev, upd, eqGuard, f0, f1, f2, f7, f8, f9, f10, neq25_same]) ?_
    refine RF.done (CF.condF (by simp [ev, upd]) (CF.skip ?_))
    show CF _ _ _ _ _ _
    refine tailA23 (c0 := c0) (er := .iface 61 (.pointer (some p))) hR hX1 hI (by simp [upd, f0]) (by simp [upd, f7]) (by simp [upd, f9]) (fun f' w' h6 hb => ?_)
    rw [then_ret]
    exact endF_tmp rfl ⟨by rw [h6], hb⟩
  · -- fewer are left
    -- region 15
    refine RF.move _ (.bool false) rfl rfl (by decide) rfl (by simp [ev, upd, f0, f1, f2, f7, f8, f9, f10]) ?_
    refine RF.move _ (.bool false) rfl rfl (by decide) rfl (by simp [ev, upd, f0, f1, f2, f7, f8, f9, f10]) ?_
    refine RF.runG (.int .u64 u) (t := 43) rfl rfl (by decide) (by simp [ev, upd, f0, f1, f2, f7, f8, f9, f10]) rfl (by decide) (by simp [execOp, ev, upd, f0, f1, f2, f7, f8, f9, f10]) ?_
    refine RF.runG (.int .u64 (m : Int)) (t := 43) rfl rfl (by decide) (by simp [ev, upd, f0, f1, f2, f7, f8, f9, f10]) rfl (by decide) (by simp [execOp, ev, upd, f0, f1, f2, f7, f8, f9, f10]) ?_
    refine RF.runG (.bool true) (t := 43) rfl rfl (by decide) (by simp [ev, upd, f0, f1, f2, f7, f8, f9, f10]) rfl (by decide) (by simp [execOp, ev, upd, eqGuard, f0, f1, f2, f7, f8, f9, f10, go_sem, hu]) ?_
    refine RF.run (.bool true) rfl rfl (by decide) (by simp [execOp, ev, upd, eqGuard, f0, f1, f2, f7, f8, f9, f10, asBool]) ?_
    refine RF.done (CF.condT (by simp [ev, upd]) ?_)
    refine CF.seq (CF.seq (CF.region ?_))
    -- region 16
    refine RF.move _ (.slice none 0 0) rfl rfl (by decide) rfl (by simp [ev, upd, f0, f1, f2, f7, f8, f9, f10]) ?_
    refine RF.run (.bool false) rfl rfl (by decide) (by simp [execOp, ev, upd, eqGuard, f0, f1, f2, f7, f8, f9, f10, neqnil22]) ?_
    refine RF.done (CF.condF (by simp [ev, upd]) (CF.skip ?_))
    show CF _ _ _ _ _ _
    refine CF.seq (CF.seq (CF.region ?_))
    -- region 18
    refine RF.move _ (.bool false) rfl rfl (by decide) rfl (by simp [ev, upd, f0, f1, f2, f7, f8, f9, f10]) ?_
    refine RF.done (CF.condF (by simp [ev, upd]) (CF.seq (CF.region ?_)))
    -- region 21
    refine RF.move _ (.pointer (some ⟨w0.heap.size + I, 0, none⟩)) rfl rfl (by decide) rfl (by simp [ev, upd, f0, f1, f2, f7, f8, f9, f10]) ?_
    refine RF.run (.pointer (some ⟨w0.heap.size + I, 0, none⟩)) rfl rfl (by decide) (by simp [execOp, ev, upd, eqGuard, f0, f1, f2, f7, f8, f9, f10]) ?_
    refine RF.run (.pointer (some ⟨w0.heap.size + I, 1, none⟩)) rfl rfl (by decide) (by simp [execOp, ev, upd, eqGuard, f0, f1, f2, f7, f8, f9, f10, field29_1]) ?_
    refine RF.run (.iface t v) rfl rfl (by decide) (x_loadA 25 _ _ (⟨w0.heap.size + I, 1, none⟩) (.iface t v) rfl Yba.underlying25 rfl (by simp [ev, upd, f0, f1, f2, f7, f8, f9, f10]) (cell_at (hX1.block hI) rfl)) ?_
    refine RF.run (.bool false) rfl rfl (by decide) (by simp [execOp, ev, upd, eqGuard, f0, f1, f2, f7, f8, f9, f10, held25_eql]) ?_
    refine RF.done (CF.condF (by simp [ev, upd]) (CF.skip ?_))
    show CF _ _ _ _ _ _
    refine tailA23 (c0 := c0) (er := .iface t v) hR hX1 hI (by simp [upd, f0]) (by simp [upd, f7]) (by simp [upd, f9]) (fun f' w' h6 hb => ?_)
    rw [then_ret]
    exact endF_tmp rfl ⟨by rw [h6], hb⟩

/-- The named slots of the good way. -/
def Good (H : Nat) (I k m c0 : Nat) (a ca : Option Addr) (f : Nat → Value) : Prop := f 0 = .slice a m c0 ∧ f 7 = .slice ca m m ∧ f 9 = .pointer (some ⟨H + I, 0, none⟩) ∧ f 10 = .slice ca k k ∧ f 12 = .int .i64 (k : Int)

set_option maxHeartbeats 1000000 in
theorem roundA1 {I j k : Nat} {Q : Exit → (Nat → Value) → World → Prop} (hR : Rows2 w0 a ca m z x os) (hX : RepX w0 w os) (hk : k ≤ m) (hjk : j ≤ k) (hG : Good w0.heap.size I k m c0 a ca f) (f13 : f 13 = .int .i64 (j : Int))
    (hout : ∀ f' w', RepX w0 w' os → Good w0.heap.size I k m c0 a ca f' → Q (.exit 0) f' w')
    (hnext : ∀ f' w', j < k → RepX w0 w' os → Good w0.heap.size I k m c0 a ca f' → f' 13 = .int .i64 ((j + 1 : Nat) : Int) → Q .normal f' w') :
    CF Yba.prog 179 ((loops (Yba.f3.body.getD .skip)).getD 0 .skip) Q f w := by
  obtain ⟨f0, f7, f9, f10, f12⟩ := hG
  have hm := hR.hm
  have hwrap : IntKind.i64.wrap ((j : Int) + 1) = (j : Int) + 1 := IntWalk.i64_in _ (by omega)
  refine CF.seq (CF.seq (CF.region ?_))
  -- region 36
  refine RF.move _ (.int .i64 (j : Int)) rfl rfl (by decide) rfl (by simp [ev, upd, f0, f10, f12, f13]) ?_
  refine RF.move _ (.int .i64 (k : Int)) rfl rfl (by decide) rfl (by simp [ev, upd, f0, f10, f12, f13]) ?_
  refine RF.run (.bool (decide ((j : Int) < (k : Int)))) rfl rfl (by decide) (by simp [execOp, ev, upd, eqGuard, f0, f10, f12, f13, go_sem]) ?_
  refine RF.done ?_
  by_cases hj : j < k
  · have ha' := hR.ax (by omega)
    have hc' := hR.cx (by omega)
    subst ha'
    subst hc'
    refine CF.condT (by simp [ev, upd, hj]) (CF.skip ?_)
    show CF _ _ _ _ _ _
    refine CF.seq (CF.block (CF.seq (CF.quiet (fun w' => RepX w0 w' os) (by kernel_rfl) (by kernel_rfl) (hX.drawn _) ?_)))
    -- region 38
    refine QF.move _ (.slice (some ⟨w0.heap.size, 0, none⟩) k k) rfl rfl (by decide) rfl (by simp [ev, upd, f0, f10, f12, f13]) ?_
    refine QF.move _ (.int .i64 (j : Int)) rfl rfl (by decide) rfl (by simp [ev, upd, f0, f10, f12, f13]) ?_
    refine QF.val (.pointer (some ((⟨w0.heap.size, 0, none⟩ : Addr).add j))) rfl rfl (by decide) (fun w hw => (by simp [execOp, ev, upd, eqGuard, f0, f10, f12, f13, index22 _ _ k k j hj])) ?_
    refine QF.val (.int .u8 (z j)) rfl rfl (by decide) (fun w hw => (x_loadA 5 _ _ ((⟨w0.heap.size, 0, none⟩ : Addr).add j) (.int .u8 (z j)) rfl Yba.underlying5 rfl (by simp [ev, upd, f0, f10, f12, f13]) (hR.ccell hw j (by omega)))) ?_
    refine QF.move _ (.slice (some x) m c0) rfl rfl (by decide) rfl (by simp [ev, upd, f0, f10, f12, f13]) ?_
    refine QF.move _ (.int .i64 (j : Int)) rfl rfl (by decide) rfl (by simp [ev, upd, f0, f10, f12, f13]) ?_
    refine QF.val (.pointer (some (x.add j))) rfl rfl (by decide) (fun w hw => (by simp [execOp, ev, upd, eqGuard, f0, f10, f12, f13, index22 _ x m c0 j (by omega)])) ?_
    refine QF.val (.int .u8 (z j)) rfl rfl (by decide) (fun w hw => (x_loadA 5 _ _ (x.add j) (.int .u8 (z j)) rfl Yba.underlying5 rfl (by simp [ev, upd, f0, f10, f12, f13]) (hR.bcell hw j (by omega)))) ?_
    refine QF.val (.bool false) rfl rfl (by decide) (fun w hw => (by simp [execOp, ev, upd, eqGuard, f0, f10, f12, f13, go_sem])) ?_
    refine QF.nil fun w1 hX1 => ?_
    show CF _ _ _ _ _ _
    refine CF.condF (by simp [ev, upd]) (CF.skip ?_)
    show CF _ _ _ _ _ _
    refine CF.region ?_
    -- region 37
    refine RF.move _ (.int .i64 (j : Int)) rfl rfl (by decide) rfl (by simp [ev, upd, f0, f10, f12, f13]) ?_
    refine RF.run (.int .i64 ((j + 1 : Nat) : Int)) rfl rfl (by decide) (by simp [execOp, ev, upd, eqGuard, f0, f10, f12, f13, go_sem, hwrap]) ?_
    refine RF.assign _ (.int .i64 ((j + 1 : Nat) : Int)) rfl rfl (by decide) rfl (by simp [ev, upd, f0, f10, f12, f13]) ?_
    refine RF.nil ?_
    exact hnext _ w1 hj hX1 ⟨by simp [upd, f0], by simp [upd, f7], by simp [upd, f9], by simp [upd, f10], by simp [upd, f12]⟩ (by simp [upd])
  · refine CF.condF (by simp [ev, upd, hj]) (CF.exit ?_)
    exact hout _ _ hX ⟨by simp [upd, f0], by simp [upd, f7], by simp [upd, f9], by simp [upd, f10], by simp [upd, f12]⟩

set_option maxHeartbeats 1000000 in
theorem roundA2 {I j k : Nat} {Q : Exit → (Nat → Value) → World → Prop} (hR : Rows2 w0 a ca m z x os) (hX : RepX w0 w os) (hI : os[I]? = some (.cells #[.slice (if m = k then ca else ca.map (·.add k)) (m - k) (m - k), .nilIface] 29)) (hk : k ≤ m) (hjk : j ≤ m - k) (hG : Good w0.heap.size I k m c0 a ca f) (f14 : f 14 = .int .i64 (j : Int))
    (hout : ∀ f' w', RepX w0 w' os → Good w0.heap.size I k m c0 a ca f' → Q (.exit 2) f' w')
    (hnext : ∀ f' w', j < m - k → RepX w0 w' os → Good w0.heap.size I k m c0 a ca f' → f' 14 = .int .i64 ((j + 1 : Nat) : Int) → Q .normal f' w') :
    CF Yba.prog 179 ((loops (Yba.f3.body.getD .skip)).getD 1 .skip) Q f w := by
  obtain ⟨f0, f7, f9, f10, f12⟩ := hG
  have hm := hR.hm
  have hwrap : IntKind.i64.wrap ((j : Int) + 1) = (j : Int) + 1 := IntWalk.i64_in _ (by omega)
  have hwrap2 : IntKind.i64.wrap ((k : Int) + (j : Int)) = (k : Int) + (j : Int) := IntWalk.i64_in _ (by omega)
  refine CF.seq (CF.seq (CF.region ?_))
  -- region 43
  refine RF.move _ (.int .i64 (j : Int)) rfl rfl (by decide) rfl (by simp [ev, upd, f0, f9, f12, f14]) ?_
  refine RF.move _ (.pointer (some ⟨w0.heap.size + I, 0, none⟩)) rfl rfl (by decide) rfl (by simp [ev, upd, f0, f9, f12, f14]) ?_
  refine RF.run (.pointer (some ⟨w0.heap.size + I, 0, none⟩)) rfl rfl (by decide) (by simp [execOp, ev, upd, eqGuard, f0, f9, f12, f14]) ?_
  refine RF.run (.pointer (some ⟨w0.heap.size + I, 0, none⟩)) rfl rfl (by decide) (by simp [execOp, ev, upd, eqGuard, f0, f9, f12, f14, field29_0]) ?_
  refine RF.run (.slice (if m = k then ca else ca.map (·.add k)) (m - k) (m - k)) rfl rfl (by decide) (x_loadA 22 _ _ (⟨w0.heap.size + I, 0, none⟩) (.slice (if m = k then ca else ca.map (·.add k)) (m - k) (m - k)) rfl Yba.underlying22 rfl (by simp [ev, upd, f0, f9, f12, f14]) (cell_at (hX.block hI) rfl)) ?_
  refine RF.run (.int .i64 ((m - k : Nat) : Int)) rfl rfl (by decide) (x_len _ 22 (.slice (if m = k then ca else ca.map (·.add k)) (m - k) (m - k)) _ rfl (by simp [ev, upd, f0, f9, f12, f14]) (len22 _ _ _ _ _)) ?_
  refine RF.run (.bool (decide ((j : Int) < ((m - k : Nat) : Int)))) rfl rfl (by decide) (by simp [execOp, ev, upd, eqGuard, f0, f9, f12, f14, go_sem]) ?_
  refine RF.done ?_
  by_cases hj : j < m - k
  · have ha' := hR.ax (by omega)
    have hc' := hR.cx (by omega)
    subst ha'
    subst hc'
    have hmk : ¬ m = k := by omega
    have hI2 : os[I]? = some (.cells #[.slice (some ((⟨w0.heap.size, 0, none⟩ : Addr).add k)) (m - k) (m - k), .nilIface] 29) := by rw [hI, if_neg hmk]; rfl
    have hcc : ∀ {w' : World}, RepX w0 w' os → w'.cell? (((⟨w0.heap.size, 0, none⟩ : Addr).add k).add j) = some (.int .u8 (z (k + j))) := fun hw => by
      have := hR.ccell hw (k + j) (by omega)
      rw [add_head] at this ⊢
      rw [Addr.add_mid]
      exact this
    have hix : ∀ w : World, (Instr.indexAt 22 (.slice (some x) m c0) (.int .i64 ((k : Int) + (j : Int)))).run Yba.prog w = .ok (.pointer (some (x.add (k + j)))) w := fun w => by
      have := index22 w x m c0 (k + j) (by omega)
      rwa [Int.natCast_add] at this
    refine CF.condT (by simp [ev, upd]; omega) (CF.skip ?_)
    show CF _ _ _ _ _ _
    refine CF.seq (CF.block (CF.seq (CF.quiet (fun w' => RepX w0 w' os) (by kernel_rfl) (by kernel_rfl) (hX.drawn _) ?_)))
    -- region 45
    refine QF.move _ (.pointer (some ⟨w0.heap.size + I, 0, none⟩)) rfl rfl (by decide) rfl (by simp [ev, upd, f0, f9, f12, f14]) ?_
    refine QF.val (.pointer (some ⟨w0.heap.size + I, 0, none⟩)) rfl rfl (by decide) (fun w hw => (by simp [execOp, ev, upd, eqGuard, f0, f9, f12, f14])) ?_
    refine QF.val (.pointer (some ⟨w0.heap.size + I, 0, none⟩)) rfl rfl (by decide) (fun w hw => (by simp [execOp, ev, upd, eqGuard, f0, f9, f12, f14, field29_0])) ?_
    refine QF.val (.slice (some ((⟨w0.heap.size, 0, none⟩ : Addr).add k)) (m - k) (m - k)) rfl rfl (by decide) (fun w hw => (x_loadA 22 _ _ (⟨w0.heap.size + I, 0, none⟩) (.slice (some ((⟨w0.heap.size, 0, none⟩ : Addr).add k)) (m - k) (m - k)) rfl Yba.underlying22 rfl (by simp [ev, upd, f0, f9, f12, f14]) (cell_at (RepX.block hw hI2) rfl))) ?_
    refine QF.move _ (.int .i64 (j : Int)) rfl rfl (by decide) rfl (by simp [ev, upd, f0, f9, f12, f14]) ?_
    refine QF.val (.pointer (some (((⟨w0.heap.size, 0, none⟩ : Addr).add k).add j))) rfl rfl (by decide) (fun w hw => (by simp [execOp, ev, upd, eqGuard, f0, f9, f12, f14, index22 _ _ (m - k) (m - k) j hj])) ?_
    refine QF.val (.int .u8 (z (k + j))) rfl rfl (by decide) (fun w hw => (x_loadA 5 _ _ (((⟨w0.heap.size, 0, none⟩ : Addr).add k).add j) (.int .u8 (z (k + j))) rfl Yba.underlying5 rfl (by simp [ev, upd, f0, f9, f12, f14]) (hcc hw))) ?_
    refine QF.move _ (.slice (some x) m c0) rfl rfl (by decide) rfl (by simp [ev, upd, f0, f9, f12, f14]) ?_
    refine QF.move _ (.int .i64 (k : Int)) rfl rfl (by decide) rfl (by simp [ev, upd, f0, f9, f12, f14]) ?_
    refine QF.move _ (.int .i64 (j : Int)) rfl rfl (by decide) rfl (by simp [ev, upd, f0, f9, f12, f14]) ?_
    refine QF.val (.int .i64 ((k + j : Nat) : Int)) rfl rfl (by decide) (fun w hw => (by simp [execOp, ev, upd, eqGuard, f0, f9, f12, f14, go_sem, hwrap2])) ?_
    refine QF.val (.pointer (some (x.add (k + j)))) rfl rfl (by decide) (fun w hw => (by simp [execOp, ev, upd, eqGuard, f0, f9, f12, f14, hix])) ?_
    refine QF.val (.int .u8 (z (k + j))) rfl rfl (by decide) (fun w hw => (x_loadA 5 _ _ (x.add (k + j)) (.int .u8 (z (k + j))) rfl Yba.underlying5 rfl (by simp [ev, upd, f0, f9, f12, f14]) (hR.bcell hw (k + j) (by omega)))) ?_
    refine QF.val (.bool false) rfl rfl (by decide) (fun w hw => (by simp [execOp, ev, upd, eqGuard, f0, f9, f12, f14, go_sem])) ?_
    refine QF.nil fun w1 hX1 => ?_
    show CF _ _ _ _ _ _
    refine CF.condF (by simp [ev, upd]) (CF.skip ?_)
    show CF _ _ _ _ _ _
    refine CF.region ?_
    -- region 44
    refine RF.move _ (.int .i64 (j : Int)) rfl rfl (by decide) rfl (by simp [ev, upd, f0, f9, f12, f14]) ?_
    refine RF.run (.int .i64 ((j + 1 : Nat) : Int)) rfl rfl (by decide) (by simp [execOp, ev, upd, eqGuard, f0, f9, f12, f14, go_sem, hwrap]) ?_
    refine RF.assign _ (.int .i64 ((j + 1 : Nat) : Int)) rfl rfl (by decide) rfl (by simp [ev, upd, f0, f9, f12, f14]) ?_
    refine RF.nil ?_
    exact hnext _ w1 hj hX1 ⟨by simp [upd, f0], by simp [upd, f7], by simp [upd, f9], by simp [upd, f10], by simp [upd, f12]⟩ (by simp [upd])
  · refine CF.condF (by simp [ev, upd]; omega) (CF.exit ?_)
    exact hout _ _ hX ⟨by simp [upd, f0], by simp [upd, f7], by simp [upd, f9], by simp [upd, f10], by simp [upd, f12]⟩

end
end Go.Proofs.Ybulkebfq

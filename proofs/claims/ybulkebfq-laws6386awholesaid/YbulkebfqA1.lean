/-
  LawS6386AWhole's callees: errors.New (5), next (6), zzs6386aeq (7), fail (11).
-/
import Derived.Test.YbulkebfqC5
import Derived.Laws.CopyRow
import Derived.LaidEql
namespace Go.Proofs.Ybulkebfq
open Go.RowKit
set_option linter.unusedSimpArgs false
set_option linter.unusedVariables false

theorem Rep.cell {w0 w : World} {os : List Obj} (h : Rep w0 w os) {p : Addr} {v : Value} (hc : w0.cell? p = some v) : w.cell? p = some v := by
  rw [h.below.cell (World.block_lt_of_cell? w0 _ hc)]; exact hc
theorem RepX.cell {w0 w : World} {os : List Obj} (h : RepX w0 w os) {p : Addr} {v : Value} (hc : w0.cell? p = some v) : w.cell? p = some v := by
  obtain ⟨l, h⟩ := h; exact h.cell hc

/-- A function that hands nothing back and ends by falling through. -/
def endF0 (R : Ending → World → Prop) : Exit → (Nat → Value) → World → Prop
  | .normal, _, w => R (.returned (.tuple #[])) w
  | _, _, _ => False
theorem calls_of_CF0 {P : Program} {g : FuncId} {fn : Func} {c : Code} {args : Array Value} {w : World} {R : Ending → World → Prop} (n : Nat) (hf : P.funcs[g]? = some fn) (hb : fn.body = some c) (hnt : fn.ntmps = n) (hn : args.size ≤ n) (hr : fn.results = #[])
    (h : ∀ f, f = (fun t => (args ++ Array.replicate (n - args.size) undef).getD t undef) → CF P n c (endF0 R) f w) : Calls P g args w R := by
  subst hnt
  refine calls_of_wp hf hb (wp_mono (h _ rfl _ (Fr.start args hn)) ?_)
  rintro e a w' ⟨f, hF, hq⟩
  cases e with
  | normal => exact bodyPost_end (results_none hr _ _ _) hF.2.1 hq
  | ret => exact hq.elim
  | exit id => exact hq.elim
  | goto l => exact hq.elim
  | panic ch => exact hq.elim
  | outgrown => exact hq.elim

theorem then_ret (K : (Nat → Value) → World → Prop) (Q : Exit → (Nat → Value) → World → Prop) (f : Nat → Value) (w : World) : thenF K Q .ret f w = Q .ret f w := rfl

/-! ### small runs -/
theorem eqlnil22' (w : World) (p : Option Addr) (n c : Nat) : (binOp .eql 22 (.slice p n c) (.slice none 0 0)).run Yba.prog w = .ok (.bool p.isNone) w := run_eql_slice_nil w 22 5 p n c Yba.underlying22
theorem neqnil22 (w : World) (p : Option Addr) (n c : Nat) : (binOp .neq 22 (.slice p n c) (.slice none 0 0)).run Yba.prog w = .ok (.bool (!p.isNone)) w := run_neq_slice_nil w 22 5 p n c Yba.underlying22
theorem index22_0 (w : World) (x : Addr) (n c : Nat) (h : 0 < n) : (Instr.indexAt 22 (.slice (some x) n c) (.int .i64 0)).run Yba.prog w = .ok (.pointer (some x)) w := by
  have := index22 w x n c 0 h
  have e : x.add 0 = x := by unfold Addr.add; split <;> simp_all
  rw [e] at this
  exact this
theorem field29_0 (w : World) (b : Nat) : (Instr.fieldAt 29 (.pointer (some ⟨b, 0, none⟩)) 0).run Yba.prog w = .ok (.pointer (some ⟨b, 0, none⟩)) w := by kernel_rfl
theorem field29_1 (w : World) (b : Nat) : (Instr.fieldAt 29 (.pointer (some ⟨b, 0, none⟩)) 1).run Yba.prog w = .ok (.pointer (some ⟨b, 1, none⟩)) w := by kernel_rfl
theorem nil25_neq (w : World) : (binOp .neq 25 .nilIface .nilIface).run Yba.prog w = .ok (.bool false) w := by kernel_rfl
theorem nil25_eql (w : World) : (binOp .eql 25 .nilIface .nilIface).run Yba.prog w = .ok (.bool true) w := by kernel_rfl
theorem held25_neq (w : World) (t : TypeId) (v : Value) : (binOp .neq 25 (.iface t v) .nilIface).run Yba.prog w = .ok (.bool true) w := by kernel_rfl
theorem held25_eql (w : World) (t : TypeId) (v : Value) : (binOp .eql 25 (.iface t v) .nilIface).run Yba.prog w = .ok (.bool false) w := by kernel_rfl
theorem size25 : (Yba.prog.info? 25).map (·.size) = some 1 := by kernel_rfl
theorem size22 : (Yba.prog.info? 22).map (·.size) = some 1 := by kernel_rfl
theorem build63 (w : World) (s : ByteArray) : (Instr.build 63 #[(0, .string s)]).run Yba.prog w = .ok (.agg #[.string s]) w := by kernel_rfl
theorem build29n (w : World) (a : Option Addr) (n c : Nat) : (Instr.build 29 #[(0, .slice a n c), (1, .nilIface)]).run Yba.prog w = .ok (.agg #[.slice a n c, .nilIface]) w := by kernel_rfl
theorem build29i (w : World) (a : Option Addr) (n c : Nat) (t : TypeId) (v : Value) : (Instr.build 29 #[(0, .slice a n c), (1, .iface t v)]).run Yba.prog w = .ok (.agg #[.slice a n c, .iface t v]) w := by kernel_rfl
theorem mkiface61 (w : World) (v : Value) : (Instr.makeInterface 61 v).run Yba.prog w = .ok (.iface 61 v) w := by kernel_rfl
theorem conv23 (w : World) (k : Nat) (h : k ≤ 1048576) : (convert 3 23 (.int .i64 (k : Int))).run Yba.prog w = .ok (.int .u64 (k : Int)) w := by
  have e : IntKind.u64.wrap (k : Int) = k := IntWalk.u64_in _ (by omega)
  simp [go_sem, Yba.underlying3, Yba.underlying23, e]

/-! ### errors.New -/
theorem new_any (s : ByteArray) (w : World) : Calls Yba.prog 5 #[.string s] w fun e w' => ∃ v, e = .returned v ∧ v = .iface 61 (.pointer (some ⟨w.heap.size, 0, none⟩)) ∧ Rep w w' [.cells #[.string s] 63] := by
  refine calls_of_CF 7 Yba.func5 rfl rfl (by simp) ?_
  intro f hf
  have f0 : f 0 = .string s := start_at hf 0 (by simp)
  clear hf
  refine CF.seq (CF.region ?_)
  -- region 0
  refine RF.assign _ (.nilIface) rfl rfl (by decide) rfl (by simp [ev, upd, f0]) ?_
  refine RF.done (CF.seq (CF.region ?_))
  -- region 1
  refine RF.move _ (.string s) rfl rfl (by decide) rfl (by simp [ev, upd, f0]) ?_
  refine RF.run (.agg #[.string s]) rfl rfl (by decide) (by simp [execOp, ev, upd, eqGuard, f0, build63]) ?_
  refine RF.box 63 _ #[.string s] (Rep.refl w) rfl rfl (by decide) rfl (by simp [ev, upd, f0]) (fun w1 r1 => ?_)
  refine RF.run (.iface 61 (.pointer (some ⟨w.heap.size, 0, none⟩))) rfl rfl (by decide) (by simp [execOp, ev, upd, eqGuard, f0, mkiface61]) ?_
  refine RF.assign _ (.iface 61 (.pointer (some ⟨w.heap.size, 0, none⟩))) rfl rfl (by decide) rfl (by simp [ev, upd, f0]) ?_
  refine RF.done (CF.ret ?_)
  exact endF_tmp rfl ⟨_, rfl, by simp [upd], r1⟩

/-! ### fail, where nothing has failed before -/
theorem fail_any (w0 w : World) (os : List Obj) (i : Nat) (sl : Value) (t : TypeId) (v : Value) (hr : Rep w0 w os) (hi : os[i]? = some (.cells #[sl, .nilIface] 29 (0, 0))) :
    Calls Yba.prog 11 #[.pointer (some ⟨w0.heap.size + i, 0, none⟩), .iface t v] w fun e w' => ∃ u, e = .returned u ∧ u = .tuple #[] ∧ Rep w0 w' (os.set i (.cells #[sl, .iface t v] 29)) := by
  refine calls_of_CF0 13 Yba.func11 rfl rfl (by simp) rfl ?_
  intro f hf
  have f0 : f 0 = .pointer (some ⟨w0.heap.size + i, 0, none⟩) := start_at hf 0 (by simp)
  have f1 : f 1 = .iface t v := start_at hf 1 (by simp)
  clear hf
  refine CF.seq (CF.region ?_)
  -- region 0
  refine RF.move _ (.pointer (some ⟨w0.heap.size + i, 0, none⟩)) rfl rfl (by decide) rfl (by simp [ev, upd, f0, f1]) ?_
  refine RF.run (.pointer (some ⟨w0.heap.size + i, 0, none⟩)) rfl rfl (by decide) (by simp [execOp, ev, upd, eqGuard, f0, f1]) ?_
  refine RF.run (.pointer (some ⟨w0.heap.size + i, 1, none⟩)) rfl rfl (by decide) (by simp [execOp, ev, upd, eqGuard, f0, f1, field29_1]) ?_
  refine RF.run (.nilIface) rfl rfl (by decide) (x_loadA 25 _ _ (⟨w0.heap.size + i, 1, none⟩) (.nilIface) rfl Yba.underlying25 rfl (by simp [ev, upd, f0, f1]) (cell_at (hr.block hi) rfl)) ?_
  refine RF.run (.bool true) rfl rfl (by decide) (by simp [execOp, ev, upd, eqGuard, f0, f1, nil25_eql]) ?_
  refine RF.done (CF.condT (by simp [ev, upd]) (CF.region ?_))
  -- region 1
  refine RF.move _ (.pointer (some ⟨w0.heap.size + i, 0, none⟩)) rfl rfl (by decide) rfl (by simp [ev, upd, f0, f1]) ?_
  refine RF.move _ (.iface t v) rfl rfl (by decide) rfl (by simp [ev, upd, f0, f1]) ?_
  refine RF.run (.pointer (some ⟨w0.heap.size + i, 0, none⟩)) rfl rfl (by decide) (by simp [execOp, ev, upd, eqGuard, f0, f1]) ?_
  refine RF.run (.pointer (some ⟨w0.heap.size + i, 1, none⟩)) rfl rfl (by decide) (by simp [execOp, ev, upd, eqGuard, f0, f1, field29_1]) ?_
  refine RF.store 25 29 _ _ i 1 #[sl, .nilIface] (.iface t v) hr hi (by simp) rfl rfl rfl (by simp [ev, upd, f0, f1]) (by simp [ev, upd, f0, f1]) rfl rfl size25 (fun w1 r1 => ?_)
  refine RF.nil ?_
  exact ⟨_, rfl, rfl, r1⟩

/-! ### next -/
/-- It has failed before. -/
theorem next_failed (w0 w : World) (os : List Obj) (i : Nat) (sl : Value) (t : TypeId) (v : Value) (u : Int) (hr : Rep w0 w os) (hi : os[i]? = some (.cells #[sl, .iface t v] 29 (0, 0))) :
    Calls Yba.prog 6 #[.pointer (some ⟨w0.heap.size + i, 0, none⟩), .int .u64 u] w fun e w' => ∃ x, e = .returned x ∧ x = .slice none 0 0 ∧ w' = w := by
  refine calls_of_CF 39 Yba.func6 rfl rfl (by simp) ?_
  intro f hf
  have f0 : f 0 = .pointer (some ⟨w0.heap.size + i, 0, none⟩) := start_at hf 0 (by simp)
  have f1 : f 1 = .int .u64 u := start_at hf 1 (by simp)
  clear hf
  refine CF.seq (CF.region ?_)
  -- region 0
  refine RF.assign _ (.slice none 0 0) rfl rfl (by decide) rfl (by simp [ev, upd, f0, f1]) ?_
  refine RF.done (CF.seq (CF.seq (CF.region ?_)))
  -- region 1
  refine RF.move _ (.pointer (some ⟨w0.heap.size + i, 0, none⟩)) rfl rfl (by decide) rfl (by simp [ev, upd, f0, f1]) ?_
  refine RF.run (.pointer (some ⟨w0.heap.size + i, 0, none⟩)) rfl rfl (by decide) (by simp [execOp, ev, upd, eqGuard, f0, f1]) ?_
  refine RF.run (.pointer (some ⟨w0.heap.size + i, 1, none⟩)) rfl rfl (by decide) (by simp [execOp, ev, upd, eqGuard, f0, f1, field29_1]) ?_
  refine RF.run (.iface t v) rfl rfl (by decide) (x_loadA 25 _ _ (⟨w0.heap.size + i, 1, none⟩) (.iface t v) rfl Yba.underlying25 rfl (by simp [ev, upd, f0, f1]) (cell_at (hr.block hi) rfl)) ?_
  refine RF.run (.bool true) rfl rfl (by decide) (by simp [execOp, ev, upd, eqGuard, f0, f1, held25_neq]) ?_
  refine RF.done (CF.condT (by simp [ev, upd]) (CF.seq (CF.region ?_)))
  -- region 2
  refine RF.assign _ (.slice none 0 0) rfl rfl (by decide) rfl (by simp [ev, upd, f0, f1]) ?_
  refine RF.done (CF.ret ?_)
  rw [then_ret]
  exact endF_tmp rfl ⟨_, rfl, by simp [upd], rfl⟩

/-- Fewer are left. -/
theorem next_short (w0 w : World) (os : List Obj) (i : Nat) (a : Option Addr) (m c : Nat) (u : Int) (hm : m ≤ 1048576) (hu : (m : Int) < u) (hr : Rep w0 w os) (hi : os[i]? = some (.cells #[.slice a m c, .nilIface] 29 (0, 0))) :
    Calls Yba.prog 6 #[.pointer (some ⟨w0.heap.size + i, 0, none⟩), .int .u64 u] w fun e w' => ∃ x, e = .returned x ∧ x = .slice none 0 0 ∧ ∃ t v o, Rep w0 w' ((os ++ [o]).set i (.cells #[.slice a m c, .iface t v] 29)) := by
  refine calls_of_CF 39 Yba.func6 rfl rfl (by simp) ?_
  intro f hf
  have f0 : f 0 = .pointer (some ⟨w0.heap.size + i, 0, none⟩) := start_at hf 0 (by simp)
  have f1 : f 1 = .int .u64 u := start_at hf 1 (by simp)
  clear hf
  refine CF.seq (CF.region ?_)
  -- region 0
  refine RF.assign _ (.slice none 0 0) rfl rfl (by decide) rfl (by simp [ev, upd, f0, f1]) ?_
  refine RF.done (CF.seq (CF.seq (CF.region ?_)))
  -- region 1
  refine RF.move _ (.pointer (some ⟨w0.heap.size + i, 0, none⟩)) rfl rfl (by decide) rfl (by simp [ev, upd, f0, f1]) ?_
  refine RF.run (.pointer (some ⟨w0.heap.size + i, 0, none⟩)) rfl rfl (by decide) (by simp [execOp, ev, upd, eqGuard, f0, f1]) ?_
  refine RF.run (.pointer (some ⟨w0.heap.size + i, 1, none⟩)) rfl rfl (by decide) (by simp [execOp, ev, upd, eqGuard, f0, f1, field29_1]) ?_
  refine RF.run (.nilIface) rfl rfl (by decide) (x_loadA 25 _ _ (⟨w0.heap.size + i, 1, none⟩) (.nilIface) rfl Yba.underlying25 rfl (by simp [ev, upd, f0, f1]) (cell_at (hr.block hi) rfl)) ?_
  refine RF.run (.bool false) rfl rfl (by decide) (by simp [execOp, ev, upd, eqGuard, f0, f1, nil25_neq]) ?_
  refine RF.done (CF.condF (by simp [ev, upd]) (CF.skip ?_))
  show CF _ _ _ _ _ _
  refine CF.seq (CF.seq (CF.region ?_))
  -- region 3
  refine RF.move _ (.int .u64 u) rfl rfl (by decide) rfl (by simp [ev, upd, f0, f1]) ?_
  refine RF.move _ (.pointer (some ⟨w0.heap.size + i, 0, none⟩)) rfl rfl (by decide) rfl (by simp [ev, upd, f0, f1]) ?_
  refine RF.run (.pointer (some ⟨w0.heap.size + i, 0, none⟩)) rfl rfl (by decide) (by simp [execOp, ev, upd, eqGuard, f0, f1]) ?_
  refine RF.run (.pointer (some ⟨w0.heap.size + i, 0, none⟩)) rfl rfl (by decide) (by simp [execOp, ev, upd, eqGuard, f0, f1, field29_0]) ?_
  refine RF.run (.slice a m c) rfl rfl (by decide) (x_loadA 22 _ _ (⟨w0.heap.size + i, 0, none⟩) (.slice a m c) rfl Yba.underlying22 rfl (by simp [ev, upd, f0, f1]) (cell_at (hr.block hi) rfl)) ?_
  refine RF.run (.int .i64 (m : Int)) rfl rfl (by decide) (x_len _ 22 (.slice a m c) _ rfl (by simp [ev, upd]) (len22 _ _ _ _ _)) ?_
  refine RF.run (.int .u64 (m : Int)) rfl rfl (by decide) (by simp [execOp, ev, upd, eqGuard, f0, f1, conv23 _ m hm]) ?_
  refine RF.run (.bool (decide ((m : Int) < u))) rfl rfl (by decide) (by simp [execOp, ev, upd, eqGuard, f0, f1, go_sem]) ?_
  refine RF.done ?_
  refine CF.condT (by simp [ev, upd, hu]) (CF.seq (CF.region ?_))
  -- region 4
  refine RF.move _ (.pointer (some ⟨w0.heap.size + i, 0, none⟩)) rfl rfl (by decide) rfl (by simp [ev, upd, f0, f1]) ?_
  refine RF.call 5 #[.string ⟨#[99, 117, 116, 32, 115, 104, 111, 114, 116]⟩] rfl rfl (by decide) (x_call 5 _ _ _ _ rfl Yba.func5 (by kernel_rfl) rfl (by simp [ev, upd, f0, f1]) rfl) (new_any _ _) (fun x w1 hx => ?_)
  obtain ⟨rfl, r1⟩ := hx
  have r2 := hr.trans r1
  refine RF.call 11 #[.pointer (some ⟨w0.heap.size + i, 0, none⟩), .iface 61 (.pointer (some ⟨w.heap.size, 0, none⟩))] rfl rfl (by decide) (x_call 11 _ _ _ _ rfl Yba.func11 (by kernel_rfl) rfl (by simp [ev, upd, f0, f1]) rfl) (fail_any w0 w1 _ i (.slice a m c) 61 (.pointer (some ⟨w.heap.size, 0, none⟩)) r2 (app_at hi)) (fun x w3 hx => ?_)
  obtain ⟨rfl, r3⟩ := hx
  refine RF.done (CF.seq (CF.region ?_))
  -- region 5
  refine RF.assign _ (.slice none 0 0) rfl rfl (by decide) rfl (by simp [ev, upd, f0, f1]) ?_
  refine RF.done (CF.ret ?_)
  rw [then_ret]
  exact endF_tmp rfl ⟨_, rfl, by simp [upd], _, _, _, r3⟩

/-- There are enough. -/
theorem next_ok (w0 w : World) (os : List Obj) (i : Nat) (a : Option Addr) (m k : Nat) (hm : m ≤ 1048576) (hk : k ≤ m) (hr : Rep w0 w os) (hi : os[i]? = some (.cells #[.slice a m m, .nilIface] 29 (0, 0))) (hz : a.map (·.add 0) = a) :
    Calls Yba.prog 6 #[.pointer (some ⟨w0.heap.size + i, 0, none⟩), .int .u64 (k : Int)] w fun e w' => ∃ x, e = .returned x ∧ x = .slice a k k ∧ Rep w0 w' (os.set i (.cells #[.slice (if m = k then a else a.map (·.add k)) (m - k) (m - k), .nilIface] 29)) := by
  have s1 : ∀ w : World, (Instr.sliceAt 22 (.slice a m m) none (some (.int .u64 (k : Int))) (some (.int .u64 (k : Int)))).run Yba.prog w = .ok (.slice a k k) w := fun w => by
    have h0 : (0 : Int) ≤ k := by omega
    have h1 : (k : Int) ≤ m := by omega
    have e : (if k = 0 then a else a.map (·.add 0)) = a := by split; rfl; exact hz
    simp [go_sem, Yba.underlying22, h0, h1, e]
  have s2 : ∀ w : World, (Instr.sliceAt 22 (.slice a m m) (some (.int .u64 (k : Int))) none none).run Yba.prog w = .ok (.slice (if m = k then a else a.map (·.add k)) (m - k) (m - k)) w := fun w => by
    have h0 : (0 : Int) ≤ k := by omega
    have h1 : (k : Int) ≤ m := by omega
    simp [go_sem, Yba.underlying22, h0, h1]
  refine calls_of_CF 39 Yba.func6 rfl rfl (by simp) ?_
  intro f hf
  have f0 : f 0 = .pointer (some ⟨w0.heap.size + i, 0, none⟩) := start_at hf 0 (by simp)
  have f1 : f 1 = .int .u64 (k : Int) := start_at hf 1 (by simp)
  clear hf
  refine CF.seq (CF.region ?_)
  -- region 0
  refine RF.assign _ (.slice none 0 0) rfl rfl (by decide) rfl (by simp [ev, upd, f0, f1]) ?_
  refine RF.done (CF.seq (CF.seq (CF.region ?_)))
  -- region 1
  refine RF.move _ (.pointer (some ⟨w0.heap.size + i, 0, none⟩)) rfl rfl (by decide) rfl (by simp [ev, upd, f0, f1]) ?_
  refine RF.run (.pointer (some ⟨w0.heap.size + i, 0, none⟩)) rfl rfl (by decide) (by simp [execOp, ev, upd, eqGuard, f0, f1]) ?_
  refine RF.run (.pointer (some ⟨w0.heap.size + i, 1, none⟩)) rfl rfl (by decide) (by simp [execOp, ev, upd, eqGuard, f0, f1, field29_1]) ?_
  refine RF.run (.nilIface) rfl rfl (by decide) (x_loadA 25 _ _ (⟨w0.heap.size + i, 1, none⟩) (.nilIface) rfl Yba.underlying25 rfl (by simp [ev, upd, f0, f1]) (cell_at (hr.block hi) rfl)) ?_
  refine RF.run (.bool false) rfl rfl (by decide) (by simp [execOp, ev, upd, eqGuard, f0, f1, nil25_neq]) ?_
  refine RF.done (CF.condF (by simp [ev, upd]) (CF.skip ?_))
  show CF _ _ _ _ _ _
  refine CF.seq (CF.seq (CF.region ?_))
  -- region 3
  refine RF.move _ (.int .u64 (k : Int)) rfl rfl (by decide) rfl (by simp [ev, upd, f0, f1]) ?_
  refine RF.move _ (.pointer (some ⟨w0.heap.size + i, 0, none⟩)) rfl rfl (by decide) rfl (by simp [ev, upd, f0, f1]) ?_
  refine RF.run (.pointer (some ⟨w0.heap.size + i, 0, none⟩)) rfl rfl (by decide) (by simp [execOp, ev, upd, eqGuard, f0, f1]) ?_
  refine RF.run (.pointer (some ⟨w0.heap.size + i, 0, none⟩)) rfl rfl (by decide) (by simp [execOp, ev, upd, eqGuard, f0, f1, field29_0]) ?_
  refine RF.run (.slice a m m) rfl rfl (by decide) (x_loadA 22 _ _ (⟨w0.heap.size + i, 0, none⟩) (.slice a m m) rfl Yba.underlying22 rfl (by simp [ev, upd, f0, f1]) (cell_at (hr.block hi) rfl)) ?_
  refine RF.run (.int .i64 (m : Int)) rfl rfl (by decide) (x_len _ 22 (.slice a m m) _ rfl (by simp [ev, upd]) (len22 _ _ _ _ _)) ?_
  refine RF.run (.int .u64 (m : Int)) rfl rfl (by decide) (by simp [execOp, ev, upd, eqGuard, f0, f1, conv23 _ m hm]) ?_
  refine RF.run (.bool (decide ((m : Int) < (k : Int)))) rfl rfl (by decide) (by simp [execOp, ev, upd, eqGuard, f0, f1, go_sem]) ?_
  refine RF.done ?_
  refine CF.condF (by simp [ev, upd]; omega) (CF.skip ?_)
  show CF _ _ _ _ _ _
  refine CF.seq (CF.region ?_)
  -- region 6
  refine RF.move _ (.pointer (some ⟨w0.heap.size + i, 0, none⟩)) rfl rfl (by decide) rfl (by simp [ev, upd, f0, f1]) ?_
  refine RF.run (.pointer (some ⟨w0.heap.size + i, 0, none⟩)) rfl rfl (by decide) (by simp [execOp, ev, upd, eqGuard, f0, f1]) ?_
  refine RF.run (.pointer (some ⟨w0.heap.size + i, 0, none⟩)) rfl rfl (by decide) (by simp [execOp, ev, upd, eqGuard, f0, f1, field29_0]) ?_
  refine RF.run (.slice a m m) rfl rfl (by decide) (x_loadA 22 _ _ (⟨w0.heap.size + i, 0, none⟩) (.slice a m m) rfl Yba.underlying22 rfl (by simp [ev, upd, f0, f1]) (cell_at (hr.block hi) rfl)) ?_
  refine RF.move _ (.int .u64 (k : Int)) rfl rfl (by decide) rfl (by simp [ev, upd, f0, f1]) ?_
  refine RF.move _ (.int .u64 (k : Int)) rfl rfl (by decide) rfl (by simp [ev, upd, f0, f1]) ?_
  refine RF.run (.slice a k k) rfl rfl (by decide) (by simp [execOp, ev, upd, eqGuard, f0, f1, s1]) ?_
  refine RF.assign _ (.slice a k k) rfl rfl (by decide) rfl (by simp [ev, upd, f0, f1]) ?_
  refine RF.done (CF.seq (CF.region ?_))
  -- region 7
  refine RF.move _ (.pointer (some ⟨w0.heap.size + i, 0, none⟩)) rfl rfl (by decide) rfl (by simp [ev, upd, f0, f1]) ?_
  refine RF.move _ (.pointer (some ⟨w0.heap.size + i, 0, none⟩)) rfl rfl (by decide) rfl (by simp [ev, upd, f0, f1]) ?_
  refine RF.run (.pointer (some ⟨w0.heap.size + i, 0, none⟩)) rfl rfl (by decide) (by simp [execOp, ev, upd, eqGuard, f0, f1]) ?_
  refine RF.run (.pointer (some ⟨w0.heap.size + i, 0, none⟩)) rfl rfl (by decide) (by simp [execOp, ev, upd, eqGuard, f0, f1, field29_0]) ?_
  refine RF.run (.slice a m m) rfl rfl (by decide) (x_loadA 22 _ _ (⟨w0.heap.size + i, 0, none⟩) (.slice a m m) rfl Yba.underlying22 rfl (by simp [ev, upd, f0, f1]) (cell_at (hr.block hi) rfl)) ?_
  refine RF.move _ (.int .u64 (k : Int)) rfl rfl (by decide) rfl (by simp [ev, upd, f0, f1]) ?_
  refine RF.run (.slice (if m = k then a else a.map (·.add k)) (m - k) (m - k)) rfl rfl (by decide) (by simp [execOp, ev, upd, eqGuard, f0, f1, s2]) ?_
  refine RF.run (.pointer (some ⟨w0.heap.size + i, 0, none⟩)) rfl rfl (by decide) (by simp [execOp, ev, upd, eqGuard, f0, f1]) ?_
  refine RF.run (.pointer (some ⟨w0.heap.size + i, 0, none⟩)) rfl rfl (by decide) (by simp [execOp, ev, upd, eqGuard, f0, f1, field29_0]) ?_
  refine RF.store 22 29 _ _ i 0 #[.slice a m m, .nilIface] (.slice (if m = k then a else a.map (·.add k)) (m - k) (m - k)) hr hi (by simp) rfl rfl rfl (by simp [ev, upd, f0, f1]) (by simp [ev, upd, f0, f1]) rfl rfl size22 (fun w1 r1 => ?_)
  refine RF.done (CF.seq (CF.region ?_))
  -- region 8
  refine RF.move _ (.slice a k k) rfl rfl (by decide) rfl (by simp [ev, upd, f0, f1]) ?_
  refine RF.assign _ (.slice a k k) rfl rfl (by decide) rfl (by simp [ev, upd, f0, f1]) ?_
  refine RF.done (CF.ret ?_)
  exact endF_tmp rfl ⟨_, rfl, by simp [upd], r1⟩

/-! ### zzs6386aeq -/
set_option maxHeartbeats 1000000 in
theorem roundEq {w0 w : World} {k n c d : Nat} {a b : Option Addr} {z : Nat → Int} {f : Nat → Value} {Q : Exit → (Nat → Value) → World → Prop} (x y : Addr) (hax : 0 < n → a = some x) (hby : 0 < n → b = some y) (hn : n ≤ 1048576) (hkn : k ≤ n)
    (hx : ∀ i, i < n → w0.cell? (x.add i) = some (.int .u8 (z i))) (hy : ∀ i, i < n → w0.cell? (y.add i) = some (.int .u8 (z i))) (hr : Rep w0 w [])
    (f0 : f 0 = .slice a n c) (f1 : f 1 = .slice b n d) (f5 : f 5 = .int .i64 (k : Int))
    (hout : ∀ f' w', Rep w0 w' [] → Q (.exit 0) f' w')
    (hnext : ∀ f' w', k < n → Rep w0 w' [] → f' 0 = .slice a n c → f' 1 = .slice b n d → f' 5 = .int .i64 ((k + 1 : Nat) : Int) → Q .normal f' w') :
    CF Yba.prog 33 ((loops (Yba.f7.body.getD .skip)).getD 0 .skip) Q f w := by
  have hwrap : IntKind.i64.wrap ((k : Int) + 1) = (k : Int) + 1 := IntWalk.i64_in _ (by omega)
  refine CF.seq (CF.seq (CF.region ?_))
  -- region 4
  refine RF.move _ (.int .i64 (k : Int)) rfl rfl (by decide) rfl (by simp [ev, upd, f0, f1, f5]) ?_
  refine RF.move _ (.slice a n c) rfl rfl (by decide) rfl (by simp [ev, upd, f0, f1, f5]) ?_
  refine RF.run (.int .i64 (n : Int)) rfl rfl (by decide) (x_len _ 22 (.slice a n c) _ rfl (by simp [ev, upd, f0, f1, f5]) (len22 _ _ _ _ _)) ?_
  refine RF.run (.bool (decide ((k : Int) < (n : Int)))) rfl rfl (by decide) (by simp [execOp, ev, upd, eqGuard, f0, f1, f5, go_sem]) ?_
  refine RF.done ?_
  by_cases hk : k < n
  · have ha' := hax (by omega)
    have hb' := hby (by omega)
    subst ha'
    subst hb'
    refine CF.condT (by simp [ev, upd, hk]) (CF.skip ?_)
    show CF _ _ _ _ _ _
    refine CF.seq (CF.block (CF.seq (CF.quiet (fun w' => Rep w0 w' []) (by kernel_rfl) (by kernel_rfl) (hr.drawn _) ?_)))
    -- region 6
    refine QF.move _ (.slice (some x) n c) rfl rfl (by decide) rfl (by simp [ev, upd, f0, f1, f5]) ?_
    refine QF.move _ (.int .i64 (k : Int)) rfl rfl (by decide) rfl (by simp [ev, upd, f0, f1, f5]) ?_
    refine QF.val (.pointer (some (x.add k))) rfl rfl (by decide) (fun w hw => (by simp [execOp, ev, upd, eqGuard, f0, f1, f5, index22 _ x n c k hk])) ?_
    refine QF.val (.int .u8 (z k)) rfl rfl (by decide) (fun w hw => (x_loadA 5 _ _ (x.add k) (.int .u8 (z k)) rfl Yba.underlying5 rfl (by simp [ev, upd, f0, f1, f5]) (hw.cell (hx k hk)))) ?_
    refine QF.move _ (.slice (some y) n d) rfl rfl (by decide) rfl (by simp [ev, upd, f0, f1, f5]) ?_
    refine QF.move _ (.int .i64 (k : Int)) rfl rfl (by decide) rfl (by simp [ev, upd, f0, f1, f5]) ?_
    refine QF.val (.pointer (some (y.add k))) rfl rfl (by decide) (fun w hw => (by simp [execOp, ev, upd, eqGuard, f0, f1, f5, index22 _ y n d k hk])) ?_
    refine QF.val (.int .u8 (z k)) rfl rfl (by decide) (fun w hw => (x_loadA 5 _ _ (y.add k) (.int .u8 (z k)) rfl Yba.underlying5 rfl (by simp [ev, upd, f0, f1, f5]) (hw.cell (hy k hk)))) ?_
    refine QF.val (.bool false) rfl rfl (by decide) (fun w hw => (by simp [execOp, ev, upd, eqGuard, f0, f1, f5, go_sem])) ?_
    refine QF.nil fun w1 r1 => ?_
    show CF _ _ _ _ _ _
    refine CF.condF (by simp [ev, upd]) (CF.skip ?_)
    show CF _ _ _ _ _ _
    refine CF.region ?_
    -- region 5
    refine RF.move _ (.int .i64 (k : Int)) rfl rfl (by decide) rfl (by simp [ev, upd, f0, f1, f5]) ?_
    refine RF.run (.int .i64 ((k + 1 : Nat) : Int)) rfl rfl (by decide) (by simp [execOp, ev, upd, eqGuard, f0, f1, f5, go_sem, hwrap]) ?_
    refine RF.assign _ (.int .i64 ((k + 1 : Nat) : Int)) rfl rfl (by decide) rfl (by simp [ev, upd, f0, f1, f5]) ?_
    refine RF.nil ?_
    exact hnext _ w1 hk r1 (by simp [upd, f0]) (by simp [upd, f1]) (by simp [upd])
  · refine CF.condF (by simp [ev, upd, hk]) (CF.exit ?_)
    exact hout _ _ hr

theorem eq_any (w : World) (n c d : Nat) (a b : Option Addr) (z : Nat → Int) (x y : Addr) (hab : a.isNone = b.isNone) (hax : 0 < n → a = some x) (hby : 0 < n → b = some y) (hn : n ≤ 1048576)
    (hx : ∀ i, i < n → w.cell? (x.add i) = some (.int .u8 (z i))) (hy : ∀ i, i < n → w.cell? (y.add i) = some (.int .u8 (z i))) :
    Calls Yba.prog 7 #[.slice a n c, .slice b n d] w fun e w' => ∃ v, e = .returned v ∧ v = .bool true ∧ Rep w w' [] := by
  refine calls_of_CF 33 Yba.func7 rfl rfl (by simp) ?_
  intro f hf
  have f0 : f 0 = .slice a n c := start_at hf 0 (by simp)
  have f1 : f 1 = .slice b n d := start_at hf 1 (by simp)
  clear hf
  refine CF.seq (CF.region ?_)
  -- region 0
  refine RF.assign _ (.bool false) rfl rfl (by decide) rfl (by simp [ev, upd, f0, f1]) ?_
  refine RF.done (CF.seq (CF.seq (CF.region ?_)))
  -- region 1
  refine RF.move _ (.slice a n c) rfl rfl (by decide) rfl (by simp [ev, upd, f0, f1]) ?_
  refine RF.run (.bool a.isNone) rfl rfl (by decide) (by simp [execOp, ev, upd, eqGuard, f0, f1, eqlnil22']) ?_
  refine RF.move _ (.slice b n d) rfl rfl (by decide) rfl (by simp [ev, upd, f0, f1]) ?_
  refine RF.run (.bool a.isNone) rfl rfl (by decide) (by simp [execOp, ev, upd, eqGuard, f0, f1, eqlnil22', hab]) ?_
  refine RF.run (.bool false) rfl rfl (by decide) (by simp [execOp, ev, upd, eqGuard, f0, f1, go_sem, Yba.underlying4]) ?_
  refine RF.move _ (.bool false) rfl rfl (by decide) rfl (by simp [ev, upd, f0, f1]) ?_
  refine RF.runG (.slice a n c) (t := 11) rfl rfl (by decide) (by simp [ev, upd, f0, f1]) rfl (by decide) (by simp [execOp, ev, upd, f0, f1]) ?_
  refine RF.runG (.int .i64 (n : Int)) (t := 11) rfl rfl (by decide) (by simp [ev, upd, f0, f1]) rfl (by decide) (x_len _ 22 (.slice a n c) _ rfl (by simp [ev, upd, f0, f1]) (len22 _ _ _ _ _)) ?_
  refine RF.runG (.slice b n d) (t := 11) rfl rfl (by decide) (by simp [ev, upd, f0, f1]) rfl (by decide) (by simp [execOp, ev, upd, f0, f1]) ?_
  refine RF.runG (.int .i64 (n : Int)) (t := 11) rfl rfl (by decide) (by simp [ev, upd, f0, f1]) rfl (by decide) (x_len _ 22 (.slice b n d) _ rfl (by simp [ev, upd, f0, f1]) (len22 _ _ _ _ _)) ?_
  refine RF.runG (.bool false) (t := 11) rfl rfl (by decide) (by simp [ev, upd, f0, f1]) rfl (by decide) (by simp [execOp, ev, upd, eqGuard, f0, f1, go_sem]) ?_
  refine RF.run (.bool false) rfl rfl (by decide) (by simp [execOp, ev, upd, eqGuard, f0, f1, asBool]) ?_
  refine RF.done (CF.condF (by simp [ev, upd]) (CF.skip ?_))
  show CF _ _ _ _ _ _
  refine CF.seq (CF.seq (CF.region ?_))
  refine RF.assign _ (.int .i64 ((0 : Nat) : Int)) rfl rfl (by decide) rfl rfl (RF.done ?_)
  refine CF.block ?_
  refine CF.loop (fun f w1 => ∃ k : Nat, k ≤ n ∧ f 5 = .int .i64 (k : Int) ∧ f 0 = .slice a n c ∧ f 1 = .slice b n d ∧ Rep w w1 []) (fun f _ => n - (intOf (f 5)).toNat) ?_ ?_
  · exact ⟨0, Nat.zero_le _, by simp [upd], by simp [upd, f0], by simp [upd, f1], Rep.refl w⟩
  · rintro g w1 ⟨k, hkn, g5, g0, g1, r1⟩
    refine roundEq x y hax hby hn hkn hx hy r1 g0 g1 g5 (fun f2 w2 r2 => ?_) (fun f2 w2 hk r2 h0 h1 h5 => ?_)
    · show CF _ _ _ _ _ _
      refine CF.seq (CF.region ?_)
      refine RF.assign _ (.bool true) rfl rfl (by decide) rfl rfl (RF.done ?_)
      refine CF.ret ?_
      exact endF_tmp rfl ⟨_, rfl, by simp [upd], r2⟩
    · refine ⟨⟨k + 1, by omega, h5, h0, h1, r2⟩, ?_⟩
      rw [h5, g5]
      simp [intOf]
      omega

end Go.Proofs.Ybulkebfq

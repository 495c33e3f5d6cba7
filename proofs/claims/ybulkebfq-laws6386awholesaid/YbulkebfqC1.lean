/-
  LawS6386CWhole's callees: zzs6386cdig (8), withLock (9), bytes.Equal (10); the map of locks.
-/
import Derived.Test.YbulkebfqRuns
import Derived.Maps.OwnSet
import Derived.DeepKeys4
import Derived.Laws.BytesArg
namespace Go.Proofs.Ybulkebfq
open Go.RowKit

/-! ### zzs6386cdig -/
/-- Thirty-two noughts. -/
def zer : Array Value := Array.replicate 32 (.int .u8 0)
/-- The digest that zzs6386cdig gives. -/
def dig (j : Int) : Array Value := (zer.setIfInBounds 0 (.int .u8 j)).setIfInBounds 1 (.int .u8 171)

theorem zero45 : (Yba.prog.info? 45).map (·.zero) = some (some (.agg zer)) := by kernel_rfl
theorem size45 : (Yba.prog.info? 45).map (·.size) = some 32 := by kernel_rfl
theorem size5 : (Yba.prog.info? 5).map (·.size) = some 1 := by kernel_rfl
theorem zer_size : zer.size = 32 := by simp [zer]
theorem dig_size (j : Int) : (dig j).size = 32 := by simp [dig, zer]
theorem dig_one (j : Int) : (dig j).all (·.oneCell') = true := by kernel_rfl
theorem dig_info (j : Int) : (Yba.prog.info? 45).map (·.size) = some (dig j).size := by rw [dig_size]; exact size45
theorem index45 (w : World) (b : Nat) (i : Int) (h0 : 0 ≤ i) (h1 : i < 32) : (Instr.indexAt 45 (.pointer (some ⟨b, 0, none⟩)) (.int .i64 i)).run Yba.prog w = .ok (.pointer (some ⟨b, i.toNat, none⟩)) w := by
  simp [go_sem, Yba.underlying45, h0, h1]

/-- What a result cell hands back: the block that its slot leads to. -/
theorem endF_row {P : Program} {fn : Func} {R : Ending → World → Prop} {f : Nat → Value} {w0 w : World} {os : List Obj} {t i : Nat} {ty t' : TypeId} {td : TypeDesc} {cs : Array Value} {fr : Nat × Nat} (hr : fn.results = #[.cell t ty]) (hf : f t = .pointer (some ⟨w0.heap.size + i, 0, none⟩))
    (hrep : Rep w0 w os) (hi : os[i]? = some (.cells cs t' fr)) (hu : P.underlying ty = some td) (htd : td.isRow = true) (hs : (P.info? ty).map (·.size) = some cs.size) (h : R (.returned (.agg cs)) w) : endF P fn R .ret f w := by
  refine ⟨.agg cs, fun tmps ht => ?_, h⟩
  have h1 := run_loadVar_row (P := P) w (w0.heap.size + i) t' ty cs fr td (hrep.block hi) hu (by cases td <;> first | rfl | cases htd) hs
  simp [results, hr, ht, hf, asAddr, h1]

set_option maxHeartbeats 400000 in
theorem dig_any (b : Int) (w : World) (h0 : 0 ≤ b) :
    Calls Yba.prog 8 #[.int .u8 b] w fun e w' => ∃ v, e = .returned v ∧ v = .agg (dig (b % 4)) ∧ Rep w w' [.cells (dig (b % 4)) 45, .cells (dig (b % 4)) 45] := by
  refine calls_of_CF 9 Yba.func8 rfl rfl (by simp) ?_
  intro f hf
  have f0 : f 0 = .int .u8 b := by rw [hf]; rfl
  clear hf
  -- region 0
  refine CF.seq (CF.region (RF.alloc 45 _ (Rep.refl w) rfl rfl (by decide) rfl zero45 (fun w1 r1 => RF.done ?_)))
  -- region 1
  refine CF.seq (CF.region (RF.alloc 45 _ r1 rfl rfl (by decide) rfl zero45 (fun w2 r2 => RF.done ?_)))
  -- region 2
  refine CF.seq (CF.region ?_)
  refine RF.move _ (.int .u8 b) rfl rfl (by decide) rfl (by simp [ev, upd, f0]) ?_
  refine RF.run (.int .u8 (b % 4)) rfl rfl (by decide) (by simp [execOp, ev, upd, go_sem, Int.tmod_eq_emod_of_nonneg h0]) ?_
  refine RF.run (.pointer (some ⟨w.heap.size + 1, 0, none⟩)) rfl rfl (by decide) (by simp [execOp, ev, upd, index45]) ?_
  refine RF.store 5 45 _ _ 1 0 zer (.int .u8 (b % 4)) r2 rfl (by simp [zer_size]) rfl rfl rfl (by simp [ev, upd]) (by simp [ev, upd]) rfl rfl size5 (fun w3 r3 => RF.done ?_)
  -- region 3
  refine CF.seq (CF.region ?_)
  refine RF.run (.pointer (some ⟨w.heap.size + 1, 1, none⟩)) rfl rfl (by decide) (by simp [execOp, ev, upd, index45]) ?_
  refine RF.store 5 45 _ _ 1 1 (zer.setIfInBounds 0 (.int .u8 (b % 4))) (.int .u8 171) r3 rfl (by simp [zer_size]) rfl rfl rfl (by simp [ev, upd]) (by simp [ev]) rfl rfl size5 (fun w4 r4 => RF.done ?_)
  -- region 4
  refine CF.seq (CF.region ?_)
  refine RF.loadRow 45 45 _ _ 1 (dig (b % 4)) (0, 0) r4 rfl rfl rfl (by decide) rfl Yba.underlying45 rfl (by simp [ev, upd]) (dig_info _) ?_
  refine RF.storeRow 45 45 _ _ 0 zer (dig (b % 4)) r4 rfl rfl rfl rfl (by simp [ev, upd]) (by simp [ev, upd]) (dig_info _) (by rw [zer_size, dig_size]) (dig_one _) (fun w5 r5 => RF.done ?_)
  refine CF.ret ?_
  exact endF_row (i := 0) rfl (by simp [upd]) r5 rfl Yba.underlying45 rfl (dig_info _) ⟨_, rfl, rfl, r5⟩

/-! ### withLock -/
def zmsg : Array Value := #[.int .u8 0, .int .u64 0, .int .u64 0, .int .i64 0, .slice none 0 0, .slice none 0 0, .pointer none, .pointer none, .slice none 0 0]
theorem zero44 : (Yba.prog.info? 44).map (·.zero) = some (some (.agg zmsg)) := by kernel_rfl
theorem size44 : (Yba.prog.info? 44).map (·.size) = some 9 := by kernel_rfl
theorem size37 : (Yba.prog.info? 37).map (·.size) = some 1 := by kernel_rfl
theorem size42 : (Yba.prog.info? 42).map (·.size) = some 1 := by kernel_rfl
theorem zmsg_size : zmsg.size = 9 := rfl
theorem field44_0 (w : World) (b : Nat) : (Instr.fieldAt 44 (.pointer (some ⟨b, 0, none⟩)) 0).run Yba.prog w = .ok (.pointer (some ⟨b, 0, none⟩)) w := by kernel_rfl
theorem field44_1 (w : World) (b : Nat) : (Instr.fieldAt 44 (.pointer (some ⟨b, 0, none⟩)) 1).run Yba.prog w = .ok (.pointer (some ⟨b, 1, none⟩)) w := by kernel_rfl
theorem field44_2 (w : World) (b : Nat) : (Instr.fieldAt 44 (.pointer (some ⟨b, 0, none⟩)) 2).run Yba.prog w = .ok (.pointer (some ⟨b, 2, none⟩)) w := by kernel_rfl
theorem field44_3 (w : World) (b : Nat) : (Instr.fieldAt 44 (.pointer (some ⟨b, 0, none⟩)) 3).run Yba.prog w = .ok (.pointer (some ⟨b, 3, none⟩)) w := by kernel_rfl
theorem field44_4 (w : World) (b : Nat) : (Instr.fieldAt 44 (.pointer (some ⟨b, 0, none⟩)) 4).run Yba.prog w = .ok (.pointer (some ⟨b, 4, none⟩)) w := by kernel_rfl
theorem field44_5 (w : World) (b : Nat) : (Instr.fieldAt 44 (.pointer (some ⟨b, 0, none⟩)) 5).run Yba.prog w = .ok (.pointer (some ⟨b, 5, none⟩)) w := by kernel_rfl
theorem field44_6 (w : World) (b : Nat) : (Instr.fieldAt 44 (.pointer (some ⟨b, 0, none⟩)) 6).run Yba.prog w = .ok (.pointer (some ⟨b, 6, none⟩)) w := by kernel_rfl
theorem field44_7 (w : World) (b : Nat) : (Instr.fieldAt 44 (.pointer (some ⟨b, 0, none⟩)) 7).run Yba.prog w = .ok (.pointer (some ⟨b, 7, none⟩)) w := by kernel_rfl
theorem field44_8 (w : World) (b : Nat) : (Instr.fieldAt 44 (.pointer (some ⟨b, 0, none⟩)) 8).run Yba.prog w = .ok (.pointer (some ⟨b, 8, none⟩)) w := by kernel_rfl
theorem field58_4 (w : World) (b : Nat) : (Instr.fieldAt 58 (.pointer (some ⟨b, 0, none⟩)) 4).run Yba.prog w = .ok (.pointer (some ⟨b, 39, none⟩)) w := by kernel_rfl
theorem nil42 (w : World) (p : Option Addr) : (binOp .neq 42 (.pointer p) (.pointer none)).run Yba.prog w = .ok (.bool (!p.isNone)) w := by
  simp [go_sem, Yba.underlying42]

/-- A message without a digest: handed back as it is. -/
theorem withLock_nil (be : Nat) (m : Array Value) (w : World) (hm : m.size = 9) (hone : m.all (·.oneCell') = true) (h7 : m[7]? = some (.pointer none)) :
    Calls Yba.prog 9 #[.pointer (some ⟨be, 0, none⟩), .agg m] w fun e w' => ∃ v, e = .returned v ∧ v = .agg m ∧ Rep w w' [.cells m 44, .cells m 44] := by
  have hmi : (Yba.prog.info? 44).map (·.size) = some m.size := by rw [hm]; exact size44
  refine calls_of_CF 27 Yba.func9 rfl rfl (by simp) ?_
  intro f hf
  have f1 : f 1 = .agg m := start_at hf 1 (by simp)
  clear hf
  refine CF.seq (CF.region ?_)
  refine RF.box 44 _ m (Rep.refl w) rfl rfl (by decide) rfl (by simp [ev, f1]) (fun w1 r1 => ?_)
  refine RF.alloc 44 _ r1 rfl rfl (by decide) rfl zero44 (fun w2 r2 => RF.done ?_)
  refine CF.seq (CF.seq (CF.region ?_))
  refine RF.run (.pointer (some ⟨w.heap.size, 7, none⟩)) rfl rfl (by decide) (by simp [execOp, ev, upd, field44_7]) ?_
  refine RF.load 42 44 _ _ 0 7 m (0, 0) (.pointer none) r2 rfl h7 rfl rfl (by decide) rfl Yba.underlying42 rfl (by simp [ev, upd]) ?_
  refine RF.run (.bool false) rfl rfl (by decide) (by simp [execOp, ev, upd, eqGuard, nil42]) ?_
  refine RF.done (CF.condF (by simp [ev, upd]) (CF.skip ?_))
  refine CF.seq (CF.region ?_)
  refine RF.loadRow 44 44 _ _ 0 m (0, 0) r2 rfl rfl rfl (by decide) rfl Yba.underlying44 rfl (by simp [ev, upd]) hmi ?_
  refine RF.storeRow 44 44 _ _ 1 zmsg m r2 rfl rfl rfl rfl (by simp [ev, upd]) (by simp [ev, upd]) hmi (by rw [hm]; rfl) hone (fun w5 r5 => RF.done ?_)
  refine CF.ret ?_
  exact endF_row (i := 1) rfl (by simp [upd]) r5 rfl Yba.underlying44 rfl hmi ⟨_, rfl, rfl, r5⟩

/-- The message that withLock hands back where it bears a digest. -/
def locked (m : Array Value) (l : Value) : Bool → Array Value
  | true => (m.setIfInBounds 6 l).setIfInBounds 7 (.pointer none)
  | false => m

/-- A message with a digest: what the map gives at it decides. -/
theorem withLock_some (be bd bm : Nat) (m evc dg : Array Value) (l : Option Addr) (ok : Bool) (w : World) (fr fr' : Nat × Nat) (hm : m.size = 9) (hone : m.all (·.oneCell') = true) (h7 : m[7]? = some (.pointer (some ⟨bd, 0, none⟩)))
    (hbe : w.heap[be]? = some (.cells evc 58 fr)) (h39 : evc[39]? = some (.map (some bm))) (hbd : w.heap[bd]? = some (.cells dg 45 fr')) (hdg : dg.size = 32)
    (hlook : ∀ w1 os, Rep w w1 os → (Instr.lookup 34 (.map (some bm)) (.agg dg) true).run Yba.prog w1 = .ok (.tuple #[.pointer l, .bool ok]) w1) :
    Calls Yba.prog 9 #[.pointer (some ⟨be, 0, none⟩), .agg m] w fun e w' => ∃ v, e = .returned v ∧ v = .agg (locked m (.pointer l) ok) ∧ Rep w w' [.cells (locked m (.pointer l) ok) 44, .cells (locked m (.pointer l) ok) 44] := by
  have hmi : (Yba.prog.info? 44).map (·.size) = some m.size := by rw [hm]; exact size44
  have hlt : be < w.heap.size := (Array.getElem?_eq_some_iff.1 hbe).1
  have hltd : bd < w.heap.size := (Array.getElem?_eq_some_iff.1 hbd).1
  have hls : (locked m (.pointer l) ok).size = 9 := by cases ok <;> simp [locked, hm]
  have hli : (Yba.prog.info? 44).map (·.size) = some (locked m (.pointer l) ok).size := by rw [hls]; exact size44
  have hlone : (locked m (.pointer l) ok).all (·.oneCell') = true := by
    cases ok
    · exact hone
    · rw [Array.all_eq_true_iff_forall_mem] at hone ⊢
      intro x hx
      simp only [locked] at hx
      rcases Array.mem_or_eq_of_mem_setIfInBounds hx with hx | rfl
      · rcases Array.mem_or_eq_of_mem_setIfInBounds hx with hx | rfl
        · exact hone x hx
        · rfl
      · rfl
  refine calls_of_CF 27 Yba.func9 rfl rfl (by simp) ?_
  intro f hf
  have f0 : f 0 = .pointer (some ⟨be, 0, none⟩) := start_at hf 0 (by simp)
  have f1 : f 1 = .agg m := start_at hf 1 (by simp)
  clear hf
  refine CF.seq (CF.region ?_)
  refine RF.box 44 _ m (Rep.refl w) rfl rfl (by decide) rfl (by simp [ev, f1]) (fun w1 r1 => ?_)
  refine RF.alloc 44 _ r1 rfl rfl (by decide) rfl zero44 (fun w2 r2 => RF.done ?_)
  refine CF.seq (CF.seq (CF.region ?_))
  refine RF.run (.pointer (some ⟨w.heap.size, 7, none⟩)) rfl rfl (by decide) (by simp [execOp, ev, upd, field44_7]) ?_
  refine RF.load 42 44 _ _ 0 7 m (0, 0) (.pointer (some ⟨bd, 0, none⟩)) r2 rfl h7 rfl rfl (by decide) rfl Yba.underlying42 rfl (by simp [ev, upd]) ?_
  refine RF.run (.bool true) rfl rfl (by decide) (by simp [execOp, ev, upd, eqGuard, nil42]) ?_
  refine RF.done (CF.condT (by simp [ev, upd]) ?_)
  refine CF.seq (CF.quiet (fun w' => Rep w w' ([] ++ [.cells m 44] ++ [.cells zmsg 44])) (by kernel_rfl) (by kernel_rfl) (r2.drawn _) ?_)
  refine QF.move _ (.pointer (some ⟨be, 0, none⟩)) rfl rfl (by decide) rfl (by simp [ev, upd, f0]) ?_
  refine QF.val (.pointer (some ⟨be, 0, none⟩)) rfl rfl (by decide) (fun w' _ => by simp [execOp, ev, upd]) ?_
  refine QF.val (.pointer (some ⟨be, 39, none⟩)) rfl rfl (by decide) (fun w' _ => by simp [execOp, ev, upd, field58_4]) ?_
  refine QF.load 34 _ _ be 39 (.map (some bm)) (fun w' hw' => cell_at ((hw'.old hlt).trans hbe) h39) rfl rfl (by decide) rfl Yba.underlying34 rfl (by simp [ev, upd]) ?_
  refine QF.val (.pointer (some ⟨w.heap.size, 7, none⟩)) rfl rfl (by decide) (fun w' _ => by simp [execOp, ev, upd, field44_7]) ?_
  refine QF.load 42 _ _ w.heap.size 7 (.pointer (some ⟨bd, 0, none⟩)) (fun w' hw' => cell_at (hw'.block (i := 0) rfl) h7) rfl rfl (by decide) rfl Yba.underlying42 rfl (by simp [ev, upd]) ?_
  refine QF.val (.pointer (some ⟨bd, 0, none⟩)) rfl rfl (by decide) (fun w' _ => by simp [execOp, ev, upd]) ?_
  refine QF.loadRow 45 45 _ _ bd dg fr' (fun w' hw' => (hw'.old hltd).trans hbd) rfl rfl (by decide) rfl Yba.underlying45 rfl (by simp [ev, upd]) (by rw [hdg]; exact size45) ?_
  refine QF.val (.tuple #[.pointer l, .bool ok]) rfl rfl (by decide) (fun w' hw' => by simp [execOp, ev, upd, hlook w' _ hw']) ?_
  refine QF.move _ (.tuple #[.pointer l, .bool ok]) rfl rfl (by decide) rfl (by simp [ev, upd]) ?_
  refine QF.val (.pointer l) rfl rfl (by decide) (fun w' _ => by simp [execOp, ev, upd, Instr.extract]) ?_
  refine QF.val (.bool ok) rfl rfl (by decide) (fun w' _ => by simp [execOp, ev, upd, Instr.extract]) ?_
  refine QF.assign _ (.pointer l) rfl rfl (by decide) rfl (by simp [ev, upd]) ?_
  refine QF.assign _ (.bool ok) rfl rfl (by decide) rfl (by simp [ev, upd]) ?_
  refine QF.nil fun w3 r3 => ?_
  show CF _ _ _ _ _ _
  refine CF.seq (CF.region ?_)
  refine RF.move _ (.bool ok) rfl rfl (by decide) rfl (by simp [ev, upd]) (RF.done ?_)
  refine CF.condB ok (by simp [ev, upd]) (fun hok => ?_) (fun hok => ?_)
  · subst hok
    refine CF.region ?_
    refine RF.move _ (.pointer l) rfl rfl (by decide) rfl (by simp [ev, upd]) ?_
    refine RF.run (.pointer (some ⟨w.heap.size, 6, none⟩)) rfl rfl (by decide) (by simp [execOp, ev, upd, field44_6]) ?_
    refine RF.store 37 44 _ _ 0 6 m (.pointer l) r3 rfl (by omega) rfl rfl rfl (by simp [ev, upd]) (by simp [ev, upd]) rfl rfl size37 (fun w4 r4 => ?_)
    refine RF.run (.pointer (some ⟨w.heap.size, 7, none⟩)) rfl rfl (by decide) (by simp [execOp, ev, upd, field44_7]) ?_
    refine RF.store 42 44 _ _ 0 7 (m.setIfInBounds 6 (.pointer l)) (.pointer none) r4 rfl (by simp; omega) rfl rfl rfl (by simp [ev, upd]) (by simp [ev]) rfl rfl size42 (fun w5 r5 => ?_)
    refine RF.nil ?_
    show CF _ _ _ _ _ _
    refine CF.seq (CF.region ?_)
    refine RF.loadRow 44 44 _ _ 0 (locked m (.pointer l) true) (0, 0) r5 rfl rfl rfl (by decide) rfl Yba.underlying44 rfl (by simp [ev, upd]) hli ?_
    refine RF.storeRow 44 44 _ _ 1 zmsg (locked m (.pointer l) true) r5 rfl rfl rfl rfl (by simp [ev, upd]) (by simp [ev, upd]) hli (by rw [hls]; rfl) hlone (fun w6 r6 => RF.done ?_)
    refine CF.ret ?_
    exact endF_row (i := 1) rfl (by simp [upd]) r6 rfl Yba.underlying44 rfl hli ⟨_, rfl, rfl, r6⟩
  · subst hok
    refine CF.skip ?_
    show CF _ _ _ _ _ _
    refine CF.seq (CF.region ?_)
    refine RF.loadRow 44 44 _ _ 0 m (0, 0) r3 rfl rfl rfl (by decide) rfl Yba.underlying44 rfl (by simp [ev, upd]) hmi ?_
    refine RF.storeRow 44 44 _ _ 1 zmsg m r3 rfl rfl rfl rfl (by simp [ev, upd]) (by simp [ev, upd]) hmi (by rw [hm]; rfl) hone (fun w6 r6 => RF.done ?_)
    refine CF.ret ?_
    exact endF_row (i := 1) rfl (by simp [upd]) r6 rfl Yba.underlying44 rfl hmi ⟨_, rfl, rfl, r6⟩

end Go.Proofs.Ybulkebfq

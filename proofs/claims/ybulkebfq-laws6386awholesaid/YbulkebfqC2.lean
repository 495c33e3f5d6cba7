/-
  The map of locks as an object; bytes.Equal of a slice with itself.
-/
import Derived.Test.YbulkebfqC1
import Derived.Lib.Builder
namespace Go.Proofs.Ybulkebfq
open Go.RowKit
open Go.Maps (Keyed)
open Go.ChangeMaps (setBlock)
open Go.MapKept

theorem laidOut : laidOutB Yba.prog = true := by kernel_rfl
theorem wide45 : (match Yba.prog.underlying 45 with | some (.array _ _) | some (.struct _) => true | _ => false) = true := by rw [Yba.underlying45]
theorem law45 : Keyed Yba.prog 45 := Keyed.of_law (deep_law_laid laidOut (m := 2) (by omega) (of_decide_eq_true (by kernel_rfl)) (by kernel_rfl) wide45)
theorem zero37 (w : World) : (zeroValue 37).run Yba.prog w = .ok (.pointer none) w := by kernel_rfl

theorem key0 : (keyOf Yba.prog 45 (.agg (dig 0))).isSome = true := by kernel_rfl
theorem key1 : (keyOf Yba.prog 45 (.agg (dig 1))).isSome = true := by kernel_rfl
theorem key2 : (keyOf Yba.prog 45 (.agg (dig 2))).isSome = true := by kernel_rfl
theorem key3 : (keyOf Yba.prog 45 (.agg (dig 3))).isSome = true := by kernel_rfl
theorem key_some (j : Nat) (hj : j < 4) : ∃ kl, keyOf Yba.prog 45 (.agg (dig j)) = some kl := by
  rcases (show j = 0 ∨ j = 1 ∨ j = 2 ∨ j = 3 from by omega) with rfl | rfl | rfl | rfl
  · exact Option.isSome_iff_exists.1 key0
  · exact Option.isSome_iff_exists.1 key1
  · exact Option.isSome_iff_exists.1 key2
  · exact Option.isSome_iff_exists.1 key3

theorem dig_inj {i j : Int} (h : dig i = dig j) : i = j := by
  have h0 : (dig i)[0]? = (dig j)[0]? := by rw [h]
  have e : ∀ k : Int, (dig k)[0]? = some (.int .u8 k) := fun k => by simp [dig, zer]
  rw [e, e] at h0
  simpa using h0

theorem key_ne {i j : Nat} {ki kj : Lit} (hi : keyOf Yba.prog 45 (.agg (dig i)) = some ki) (hj : keyOf Yba.prog 45 (.agg (dig j)) = some kj) (h : i ≠ j) : ki ≠ kj := fun e => by
  subst e
  have := law45.inj hi hj
  simp only [Value.agg.injEq] at this
  have := dig_inj this
  omega

/-- How a pointer to a block's head reads. -/
def ptrElem (v : Value) : Option (DataW Unit × List MemPlace) :=
  match v with
  | .pointer none => some (.lit (.int .i64 (-1)), [])
  | .pointer (some a) => if a.off = 0 ∧ a.spot = none then some (.lit (.int .i64 a.block), []) else none
  | _ => none

theorem ptrElem_mk (b : Nat) : ptrElem (.pointer (some ⟨b, 0, none⟩)) = some (.lit (.int .i64 b), []) := by simp [ptrElem]
theorem ptrElem_inv {v : Value} {b : Nat} {ps : List MemPlace} (h : ptrElem v = some (.lit (.int .i64 (b : Int)), ps)) : v = .pointer (some ⟨b, 0, none⟩) := by
  unfold ptrElem at h
  split at h
  · simp only [Option.some.injEq, Prod.mk.injEq, DataW.lit.injEq, Lit.int.injEq] at h; omega
  · split at h
    · rename_i a hc
      obtain ⟨bl, off, sp⟩ := a
      simp only [Option.some.injEq, Prod.mk.injEq, DataW.lit.injEq, Lit.int.injEq, true_and] at h hc
      obtain ⟨rfl, rfl⟩ := hc
      have : bl = b := by omega
      rw [this]
    · cases h
  · cases h
theorem ptrElem_ptr {v : Value} {z : DataW Unit × List MemPlace} (h : ptrElem v = some z) : ∃ p, v = .pointer p := by
  unfold ptrElem at h
  split at h
  · exact ⟨_, rfl⟩
  · exact ⟨_, rfl⟩
  · cases h

/-- How many of the four digests have a lock. -/
def cnt (g : Nat → Option Nat) : Nat := ((List.range 4).filter fun j => (g j).isSome).length

/-- The object o is a map of at most k locks: at the digest j the pointer to the head of block g j. -/
def Locks (o : Obj) (k : Nat) (g : Nat → Option Nat) : Prop :=
  ∃ D : DataW Unit, (∀ (w : World) (b : Nat), w.heap[b]? = some o → w.ownsMap Yba.prog 45 ptrElem b k D) ∧
    (∀ j : Nat, j < 4 → ∀ kl, keyOf Yba.prog 45 (.agg (dig j)) = some kl → Maps.has D kl = (g j).isSome ∧ ∀ i, g j = some i → D.atKey kl (.lit (.int .i64 (-1))) = .lit (.int .i64 (i : Int))) ∧ Maps.size D = cnt g

theorem owns_any {w : World} {b k : Nat} {D : DataW Unit} {es : Array MapEntry} {clock : Nat} (hb : w.heap[b]? = some (.map es clock)) (h : w.ownsMap Yba.prog 45 ptrElem b k D) :
    ∀ (w' : World) (b' : Nat), w'.heap[b']? = some (.map es clock) → w'.ownsMap Yba.prog 45 ptrElem b' k D := by
  intro w' b' hb'
  obtain ⟨es0, clock0, h1, h2⟩ := h
  rw [hb] at h1
  simp only [Option.some.injEq, Obj.map.injEq] at h1
  obtain ⟨rfl, rfl⟩ := h1
  exact ⟨es, clock, hb', h2⟩

theorem locks_made : Locks (.map #[] 0) 0 (fun _ => none) := by
  refine ⟨.map [], fun w b hb => ?_, fun j _ kl _ => ⟨rfl, fun i hi => by cases hi⟩, rfl⟩
  have h := World.ownsMap_made w Yba.prog 45 ptrElem
  exact owns_any ((MapKept.heap_alloc w _).1) h w b hb

/-- 'locks[dig j] = p'. -/
theorem Locks.update {o : Obj} {k : Nat} {g : Nat → Option Nat} (h : Locks o k g) {w : World} {b j bl : Nat} (hb : w.heap[b]? = some o) (hj : j < 4) (hk : k < maxLen) :
    ∃ es clock, (Instr.mapUpdate 34 (.map (some b)) (.agg (dig j)) (.pointer (some ⟨bl, 0, none⟩))).run Yba.prog w = .ok () (setBlock w b (.map es clock)) ∧
      Locks (.map es clock) (k + 1) (fun i => if i = j then some bl else g i) := by
  obtain ⟨D, hD, hkeys, hsz⟩ := h
  obtain ⟨kl, hkl⟩ := key_some j hj
  have hown := hD w b hb
  obtain ⟨w', hrun, hown', es, clock, es', clock', hb0, rfl⟩ := hown.store law45 Yba.underlying34 hk hkl (ptrElem_mk bl)
  have hkey : WideAt.IsKeyLit kl := law45.key hkl
  refine ⟨es', clock', hrun, D.put kl (.lit (.int .i64 (bl : Int))), owns_any (Go.ChangeMaps.heap_setBlock_same hb0 _) hown', ?_, ?_⟩
  · intro i hi ki hki
    by_cases e : i = j
    · subst e
      obtain rfl : ki = kl := Option.some.inj (hki.symm.trans hkl)
      refine ⟨by rw [Maps.has_put_same hown.isMap hkey]; simp, fun i' hi' => ?_⟩
      simp at hi'
      subst hi'
      exact Maps.atKey_put_same hown.isMap hkey _ _
    · have hne := key_ne hki hkl e
      obtain ⟨h1, h2⟩ := hkeys i hi ki hki
      refine ⟨by rw [Maps.has_put_other hne, h1]; simp [e], fun i' hi' => ?_⟩
      simp only [e, if_false] at hi'
      rw [Maps.atKey_put_other hne]
      exact h2 i' hi'
  · rw [Maps.size_put (hown.tidy law45), hsz, (hkeys j hj kl hkl).1]
    have key : ∀ a0 a1 a2 a3 : Option Nat, ∀ j, j < 4 → ((List.range 4).filter fun i => ((if i = j then some bl else [a0, a1, a2, a3].getD i none)).isSome).length = if (([a0, a1, a2, a3] : List (Option Nat)).getD j none).isSome then ((List.range 4).filter fun i => (([a0, a1, a2, a3] : List (Option Nat)).getD i none).isSome).length else ((List.range 4).filter fun i => (([a0, a1, a2, a3] : List (Option Nat)).getD i none).isSome).length + 1 := by
      intro a0 a1 a2 a3 j hj
      have e4 : List.range 4 = [0, 1, 2, 3] := rfl
      rw [e4]
      match j, hj with
      | 0, _ => cases a0 <;> cases a1 <;> cases a2 <;> cases a3 <;> rfl
      | 1, _ => cases a0 <;> cases a1 <;> cases a2 <;> cases a3 <;> rfl
      | 2, _ => cases a0 <;> cases a1 <;> cases a2 <;> cases a3 <;> rfl
      | 3, _ => cases a0 <;> cases a1 <;> cases a2 <;> cases a3 <;> rfl
    have hg : ∀ i, i < 4 → ([g 0, g 1, g 2, g 3] : List (Option Nat)).getD i none = g i := by
      intro i hi
      match i, hi with
      | 0, _ => rfl
      | 1, _ => rfl
      | 2, _ => rfl
      | 3, _ => rfl
    have k1 := key (g 0) (g 1) (g 2) (g 3) j hj
    unfold cnt
    rw [hg j hj] at k1
    have c1 : (List.range 4).filter (fun i => ((if i = j then some bl else [g 0, g 1, g 2, g 3].getD i none)).isSome) = (List.range 4).filter (fun i => ((if i = j then some bl else g i)).isSome) := List.filter_congr (fun i hi => by rw [hg i (List.mem_range.1 hi)])
    have c2 : (List.range 4).filter (fun i => (([g 0, g 1, g 2, g 3] : List (Option Nat)).getD i none).isSome) = (List.range 4).filter (fun i => (g i).isSome) := List.filter_congr (fun i hi => by rw [hg i (List.mem_range.1 hi)])
    rw [c1, c2] at k1
    exact k1.symm

/-- 'l, ok := locks[dig j]'. -/
theorem Locks.look_ok {o : Obj} {k : Nat} {g : Nat → Option Nat} (h : Locks o k g) {j : Nat} (hj : j < 4) :
    ∃ l : Option Addr, (∀ i, g j = some i → l = some ⟨i, 0, none⟩) ∧ ∀ (w : World) (b : Nat), w.heap[b]? = some o → (Instr.lookup 34 (.map (some b)) (.agg (dig j)) true).run Yba.prog w = .ok (.tuple #[.pointer l, .bool (g j).isSome]) w := by
  obtain ⟨D, hD, hkeys, hsz⟩ := h
  obtain ⟨kl, hkl⟩ := key_some j hj
  obtain ⟨h1, h2⟩ := hkeys j hj kl hkl
  have key : ∀ (w : World) (b : Nat), w.heap[b]? = some o → ∃ p : Option Addr, (Instr.lookup 34 (.map (some b)) (.agg (dig j)) true).run Yba.prog w = .ok (.tuple #[.pointer p, .bool (g j).isSome]) w ∧ ∃ ps, ptrElem (.pointer p) = some (D.atKey kl (.lit (.int .i64 (-1))), ps) := by
    intro w b hb
    obtain ⟨v, ps, hrun, hv⟩ := (hD w b hb).look_ok law45 Yba.underlying34 (zero37 w) (zd := .lit (.int .i64 (-1))) (zp := []) rfl hkl
    obtain ⟨p, rfl⟩ := ptrElem_ptr hv
    exact ⟨p, by rw [hrun, h1], ps, hv⟩
  cases hg : g j with
  | some i =>
    refine ⟨some ⟨i, 0, none⟩, fun i' hi' => by cases hi'; rfl, fun w b hb => ?_⟩
    obtain ⟨p, hrun, ps, hp⟩ := key w b hb
    rw [h2 i hg] at hp
    have := ptrElem_inv hp
    rw [hrun, this, hg]
  | none =>
    refine ⟨none, (fun i' hi' => by cases hi'), fun w b hb => ?_⟩
    obtain ⟨p, hrun, ps, hp⟩ := key w b hb
    have hh : Maps.has D kl = false := by rw [h1, hg]; rfl
    rw [Maps.atKey_of_not_has hh] at hp
    have : p = none := by
      cases p with
      | none => rfl
      | some a =>
        exfalso
        simp only [ptrElem] at hp
        split at hp
        · simp only [Option.some.injEq, Prod.mk.injEq, DataW.lit.injEq, Lit.int.injEq] at hp; omega
        · cases hp
    rw [hrun, this, hg]

/-- 'locks[dig j]' where it is there. -/
theorem Locks.look {o : Obj} {k : Nat} {g : Nat → Option Nat} (h : Locks o k g) {j i : Nat} (hj : j < 4) (hg : g j = some i) {w : World} {b : Nat} (hb : w.heap[b]? = some o) :
    (Instr.lookup 34 (.map (some b)) (.agg (dig j)) false).run Yba.prog w = .ok (.pointer (some ⟨i, 0, none⟩)) w := by
  obtain ⟨D, hD, hkeys, hsz⟩ := h
  obtain ⟨kl, hkl⟩ := key_some j hj
  obtain ⟨v, ps, hrun, hv⟩ := (hD w b hb).lookup law45 Yba.underlying34 (zero37 w) (zd := .lit (.int .i64 (-1))) (zp := []) rfl hkl
  rw [(hkeys j hj kl hkl).2 i hg] at hv
  rw [hrun, ptrElem_inv hv]

/-- 'len(locks)'. -/
theorem Locks.len {o : Obj} {k : Nat} {g : Nat → Option Nat} (h : Locks o k g) {w : World} {b : Nat} (hb : w.heap[b]? = some o) (ty : TypeId) : (Builtin.len_ #[34] ty #[.map (some b)]).run Yba.prog w = .ok (.int .i64 (cnt g)) w := by
  obtain ⟨D, hD, hkeys, hsz⟩ := h
  rw [(hD w b hb).len Yba.underlying34, hsz]

/-- 'locks[dig j] = p' at a plain region's list. -/
theorem RF.locksPut {n : Nat} {Q : Exit → (Nat → Value) → World → Prop} {f : Nat → Value} {w0 w : World} {os : List Obj} {ops : Array Oper} {o : Oper} {rest : List Oper} (m x v : Operand) (mo : Obj) (k j bl : Nat) (g : Nat → Option Nat)
    (hr : Rep w0 w os) (hi : os[0]? = some mo) (hL : Locks mo k g) (hj : j < 4) (hk : k < maxLen) (hg : o.guard = none) (hd : o.dst = none) (ho : o.op = .mapUpdate 34 m x v) (hm : ev f m = .map (some w0.heap.size)) (hx : ev f x = .agg (dig j)) (hv : ev f v = .pointer (some ⟨bl, 0, none⟩))
    (h : ∀ w' mo', Rep w0 w' (os.set 0 mo') → Locks mo' (k + 1) (fun i => if i = j then some bl else g i) → RF Yba.prog n ops rest Q f w') : RF Yba.prog n ops (o :: rest) Q f w := by
  have hb : w.heap[w0.heap.size]? = some mo := hr.block (i := 0) hi
  obtain ⟨es, clock, hrun, hL'⟩ := hL.update (bl := bl) hb hj hk
  have hlt : w0.heap.size < w.heap.size := (Array.getElem?_eq_some_iff.1 hb).1
  refine RF.unit _ hg hd ?_ (h (setBlock w w0.heap.size (.map es clock)) (.map es clock) ?_ hL')
  · simp [execOp, ho, hm, hx, hv, hrun, Result.andThen]
  · refine hr.turn (i := 0) rfl rfl rfl (List.getElem?_eq_some_iff.1 hi).1 ?_ (fun k hk => ?_)
    · simp [setBlock, hlt]
    · simp only [Nat.add_zero] at hk
      simp [setBlock, Array.getElem?_setIfInBounds_ne (Ne.symm hk)]

/-! ### bytes.Equal -/
/-- A slice of integers that came in: nil, or it leads to a row of 'cap' cells, the numbers 'zs'. -/
def IsRow (k : IntKind) (w : World) (a : Option Addr) (len cap : Nat) (zs : List Int) : Prop :=
  (a = none ∧ len = 0 ∧ cap = 0 ∧ zs = []) ∨
  ∃ x, a = some x ∧ len ≤ cap ∧ cap ≤ maxLen ∧ zs.length = cap ∧ (∀ i, i < zs.length → w.cell? (x.add i) = some (.int k (zs.getD i 0))) ∧ ∀ n ∈ zs, (Lit.int k n).wf = true

theorem conv_row {w : World} {a : Option Addr} {len cap : Nat} {zs : List Int} (h : IsRow .u8 w a len cap zs) :
    ∃ s : ByteArray, ∀ w' os, Rep w w' os → (convert 22 9 (.slice a len cap)).run Yba.prog w' = .ok (.string s) w' := by
  rcases h with ⟨rfl, rfl, rfl, rfl⟩ | ⟨x, rfl, hlc, _, hzl, hcell, _⟩
  · exact ⟨ByteArray.empty, fun w' _ _ => run_convert_bytes_nil w' 22 5 Yba.underlying22 Yba.underlying5 0 0 9 Yba.underlying9⟩
  · refine ⟨((zs.take len).foldl (fun r n => r.push (UInt8.ofNat n.toNat)) ByteArray.empty), fun w' os hr => ?_⟩
    have hl : (loadCells x len).run Yba.prog w' = .ok ((zs.take len).map (Value.int .u8)).toArray w' := by
      have := run_loadCells_list (P := Yba.prog) w' x ((zs.take len).map (Value.int .u8)) (fun j v hj => by
        rw [List.getElem?_map, List.getElem?_take] at hj
        split at hj
        · rename_i hjl
          have hjz : j < zs.length := by omega
          have hc := hcell j hjz
          have hlt := World.block_lt_of_cell? w _ hc
          rw [hr.below.cell hlt, hc]
          simp [List.getElem?_eq_getElem hjz] at hj
          subst hj
          simp [List.getD, List.getElem?_eq_getElem hjz]
        · cases hj)
      simpa [hzl, hlc] using this
    rw [run_convert_bytes_string w' 22 9 5 _ len cap Yba.underlying22 Yba.underlying5 Yba.underlying9, run_bytesToString w' _ len cap (zs.take len) hl]

theorem equal_self (a : Option Addr) (len cap : Nat) (s : ByteArray) (w : World) (hc : (convert 22 9 (.slice a len cap)).run Yba.prog w = .ok (.string s) w) :
    Calls Yba.prog 10 #[.slice a len cap, .slice a len cap] w fun e w' => ∃ v, e = .returned v ∧ v = .bool true ∧ w' = w := by
  refine calls_of_CF 10 Yba.func10 rfl rfl (by simp) ?_
  intro f hf
  have f0 : f 0 = .slice a len cap := start_at hf 0 (by simp)
  have f1 : f 1 = .slice a len cap := start_at hf 1 (by simp)
  clear hf
  refine CF.seq (CF.region ?_)
  refine RF.assign _ (.bool false) rfl rfl (by decide) rfl rfl (RF.done ?_)
  refine CF.seq (CF.region ?_)
  refine RF.move _ (.slice a len cap) rfl rfl (by decide) rfl (by simp [ev, upd, f0]) ?_
  refine RF.run (.string s) rfl rfl (by decide) (by simp [execOp, ev, upd, hc]) ?_
  refine RF.move _ (.slice a len cap) rfl rfl (by decide) rfl (by simp [ev, upd, f1]) ?_
  refine RF.run (.string s) rfl rfl (by decide) (by simp [execOp, ev, upd, hc]) ?_
  refine RF.run (.bool true) rfl rfl (by decide) (by simp [execOp, ev, upd, eqGuard, go_sem]) ?_
  refine RF.assign _ (.bool true) rfl rfl (by decide) rfl (by simp [ev, upd]) (RF.done ?_)
  refine CF.ret ?_
  exact endF_tmp rfl ⟨_, rfl, by simp [upd], rfl⟩

end Go.Proofs.Ybulkebfq

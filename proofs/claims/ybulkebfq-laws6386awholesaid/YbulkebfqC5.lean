/-
  LawS6386CWhole: its last loop.
-/
import Derived.Test.YbulkebfqC4
import Derived.Lib.LazyBuf
namespace Go.Proofs.Ybulkebfq
open Go.RowKit
set_option linter.unusedSimpArgs false
set_option linter.unusedVariables false

/-- w holds at least the blocks os behind the old heap. -/
def RepX (w0 w : World) (os : List Obj) : Prop := ∃ l, Rep w0 w (os ++ l)
theorem Rep.x {w0 w : World} {os : List Obj} (h : Rep w0 w os) : RepX w0 w os := ⟨[], by simpa using h⟩
theorem RepX.block {w0 w : World} {os : List Obj} (h : RepX w0 w os) {i : Nat} {o : Obj} (hi : os[i]? = some o) : w.heap[w0.heap.size + i]? = some o := by
  obtain ⟨l, h⟩ := h
  refine h.block ?_
  rw [List.getElem?_append_left (List.getElem?_eq_some_iff.1 hi).1]
  exact hi
theorem RepX.grow {w0 w w' : World} {os l : List Obj} (h : RepX w0 w os) (h' : Rep w w' l) : RepX w0 w' os := by
  obtain ⟨l0, h⟩ := h
  exact ⟨l0 ++ l, by rw [← List.append_assoc]; exact h.trans h'⟩
theorem RepX.drawn {w0 w : World} {os : List Obj} (h : RepX w0 w os) (d : Nat) : RepX w0 { w with drawn := d } os := h
theorem RepX.below {w0 w : World} {os : List Obj} (h : RepX w0 w os) : Below w0.heap.size w0 w := by
  obtain ⟨l, h⟩ := h
  exact h.below

/-- The evidence's cells: all noughts but the map of locks. -/
def zev : Array Value := Array.replicate 32 (.int .u8 0) ++ #[.slice none 0 0, .map none, .pointer none, .pointer none, .int .u64 0, .slice none 0 0, .map none, .map none]
def evd (b : Nat) : Array Value := zev.setIfInBounds 39 (.map (some b))
theorem build58 (w : World) (b : Nat) : (Instr.build 58 #[(4, .map (some b))]).run Yba.prog w = .ok (.agg (evd b)) w := by kernel_rfl
theorem evd_39 (b : Nat) : (evd b)[39]? = some (.map (some b)) := by simp [evd, zev]

/-- What lies in the call's own blocks behind its second loop. -/
structure Mem (mo : Obj) (H n : Nat) (zs : List Int) (sq E W : Nat) (hl hd : Bool) (lr : Int) (lk dp : Option Addr) (os : List Obj) : Prop where
  o0 : os[0]? = some mo
  o1 : os[1]? = some (.cells (ptrArr H n n) 37)
  o2 : os[2]? = some (.cells (lastArr zs n) 36)
  om : ∀ i, i < n → os[3 + 3 * i]? = some (.cells (msg i) 44)
  oE : os[E]? = some (.cells (evd H) 58)
  oW : os[W]? = some (.cells (dig sq) 45)
  olk : (hl = false ∧ lk = none) ∨ (hl = true ∧ ∃ L, lk = some ⟨H + L, 0, none⟩ ∧ os[L]? = some (.cells (msg lr) 44))
  odp : (hd = false ∧ dp = none) ∨ (hd = true ∧ ∃ D, dp = some ⟨H + D, 0, none⟩ ∧ os[D]? = some (.cells (dig sq) 45))

theorem app_at {os l : List Obj} {i : Nat} {o : Obj} (h : os[i]? = some o) : (os ++ l)[i]? = some o := by
  rw [List.getElem?_append_left (List.getElem?_eq_some_iff.1 h).1]; exact h

theorem Mem.append {mo : Obj} {H n : Nat} {zs : List Int} {sq E W : Nat} {hl hd : Bool} {lr : Int} {lk dp : Option Addr} {os : List Obj} (h : Mem mo H n zs sq E W hl hd lr lk dp os) (l : List Obj) : Mem mo H n zs sq E W hl hd lr lk dp (os ++ l) :=
  ⟨app_at h.o0, app_at h.o1, app_at h.o2, fun i hi => app_at (h.om i hi), app_at h.oE, app_at h.oW,
    h.olk.imp id (fun ⟨h1, L, h2, h3⟩ => ⟨h1, L, h2, app_at h3⟩), h.odp.imp id (fun ⟨h1, D, h2, h3⟩ => ⟨h1, D, h2, app_at h3⟩)⟩

theorem neq37_same (w : World) (p : Addr) : (binOp .neq 37 (.pointer (some p)) (.pointer (some p))).run Yba.prog w = .ok (.bool false) w := by
  have hj : ∃ j, Yba.prog.info? 44 = some j := Option.isSome_iff_exists.1 (by kernel_rfl)
  obtain ⟨j, hj⟩ := hj
  exact Lib.run_neq_ptr_same w p Yba.underlying37 hj
theorem neq42_same (w : World) (p : Addr) : (binOp .neq 42 (.pointer (some p)) (.pointer (some p))).run Yba.prog w = .ok (.bool false) w := by
  have hj : ∃ j, Yba.prog.info? 45 = some j := Option.isSome_iff_exists.1 (by kernel_rfl)
  obtain ⟨j, hj⟩ := hj
  exact Lib.run_neq_ptr_same w p Yba.underlying42 hj
theorem nil37 (w : World) (p : Option Addr) : (binOp .neq 37 (.pointer p) (.pointer none)).run Yba.prog w = .ok (.bool (!p.isNone)) w := by
  simp [go_sem, Yba.underlying37]
theorem pick_f (ρ : Operand → Value) (o : Oper) (x y z : Operand) (w : World) (ho : o.op = .pick x y z) (hx : ρ x = .bool false) : (execOp ρ o).run Yba.prog w = .ok (.value (ρ z)) w := by
  simp [execOp, ho, hx, asBool]
theorem pick_t (ρ : Operand → Value) (o : Oper) (x y z : Operand) (w : World) (ho : o.op = .pick x y z) (hx : ρ x = .bool true) : (execOp ρ o).run Yba.prog w = .ok (.value (ρ y)) w := by
  simp [execOp, ho, hx, asBool]

section
variable {a : Option Addr} {n c : Nat} {hd : Bool} {ds : Int} {hl : Bool} {lr kd ht rd fm : Int} {va : Option Addr} {vn vc : Nat} {sa : Option Addr} {sn sc : Nat}

/-- What holds at the head of the last loop. -/
def Inv3 (w0 : World) (os : List Obj) (E : Nat) (a : Option Addr) (n c : Nat) (hd : Bool) (ds : Int) (hl : Bool) (lr kd ht rd fm : Int) (va : Option Addr) (vn vc : Nat) (sa : Option Addr) (sn sc : Nat) (f : Nat → Value) (w : World) : Prop :=
  Par f a n c hd ds hl lr kd ht rd fm va vn vc sa sn sc ∧ f 24 = .slice (some ⟨w0.heap.size + 1, 0, none⟩) n n ∧ f 25 = .pointer (some ⟨w0.heap.size + 2, 0, none⟩) ∧ f 30 = .pointer (some ⟨w0.heap.size + E, 0, none⟩) ∧ RepX w0 w os

set_option maxHeartbeats 1000000 in
theorem round3 {w0 w : World} {zs : List Int} {k : Nat} {f : Nat → Value} {Q : Exit → (Nat → Value) → World → Prop} {mo : Obj} {sq E W : Nat} {lk dp : Option Addr} {os : List Obj} (x : Addr) (ha : 0 < n → a = some x) (hn : n ≤ 1048576) (hkn : k ≤ n)
    (hcell : ∀ {w' : World}, RepX w0 w' os → ∀ i, i < n → w'.cell? (x.add i) = some (.int .u8 (zs.getD i 0))) (hz : ∀ i, i < n → 0 ≤ zs.getD i 0)
    (hM : Mem mo w0.heap.size n zs sq E W hl hd lr lk dp os) (hL : Locks mo n (locksOf w0.heap.size zs n))
    (hI : Inv3 w0 os E a n c hd ds hl lr kd ht rd fm va vn vc sa sn sc f w) (f38 : f 38 = .int .i64 (k : Int))
    (hout : ∀ f' w', Inv3 w0 os E a n c hd ds hl lr kd ht rd fm va vn vc sa sn sc f' w' → Q (.exit 4) f' w')
    (hnext : ∀ f' w', k < n → Inv3 w0 os E a n c hd ds hl lr kd ht rd fm va vn vc sa sn sc f' w' → f' 38 = .int .i64 ((k + 1 : Nat) : Int) → Q .normal f' w') :
    CF Yba.prog 287 ((loops (Yba.f4.body.getD .skip)).getD 2 .skip) Q f w := by
  obtain ⟨hP, f24, f25, f30, hX⟩ := hI
  have f0 := hP.f0
  have hwrap : IntKind.i64.wrap ((k : Int) + 1) = (k : Int) + 1 := IntWalk.i64_in _ (by omega)
  have htm : k < n → (zs[k]?.getD 0).tmod 4 = ((sel zs k : Nat) : Int) := fun hk => by
    have := hz k hk
    rw [sel_int, List.getD_eq_getElem?_getD] at *
    exact Int.tmod_eq_emod_of_nonneg this
  refine CF.seq (CF.seq (CF.region ?_))
  -- region 51
  refine RF.move _ (.int .i64 (k : Int)) rfl rfl (by decide) rfl (by simp [ev, upd, f0, f24, f25, f30, f38]) ?_
  refine RF.move _ (.slice a n c) rfl rfl (by decide) rfl (by simp [ev, upd, f0, f24, f25, f30, f38]) ?_
  refine RF.run (.int .i64 (n : Int)) rfl rfl (by decide) (x_len _ 22 (.slice a n c) _ rfl (by simp [ev, upd, f0, f24, f25, f30, f38]) (len22 _ _ _ _ _)) ?_
  refine RF.run (.bool (decide ((k : Int) < (n : Int)))) rfl rfl (by decide) (by simp [execOp, ev, upd, eqGuard, f0, f24, f25, f30, f38, go_sem]) ?_
  refine RF.done ?_
  by_cases hk : k < n
  · have ha' := ha (by omega)
    subst ha'
    obtain ⟨r, hlast⟩ := lastOf_some zs n k hk
    have hrn : r < n := lastOf_lt zs n _ r hlast
    have hlock : locksOf w0.heap.size zs n (sel zs k) = some (w0.heap.size + 3 + 3 * r) := by unfold locksOf; rw [hlast]; rfl
    have hlastc : (lastArr zs n)[sel zs k]? = some (.int .i64 (r : Int)) := by rw [lastArr_at zs n _ (sel_lt zs k), hlast]; rfl
    refine CF.condT (by simp [ev, upd, hk]) (CF.skip ?_)
    show CF _ _ _ _ _ _
    refine CF.seq (CF.block (CF.seq (CF.seq (CF.quiet (fun w' => RepX w0 w' os) (by kernel_rfl) (by kernel_rfl) (hX.drawn _) ?_))))
    -- region 53
    refine QF.move _ (.pointer (some ⟨w0.heap.size + E, 0, none⟩)) rfl rfl (by decide) rfl (by simp [ev, upd, f0, f24, f25, f30, f38]) ?_
    refine QF.val (.pointer (some ⟨w0.heap.size + E, 0, none⟩)) rfl rfl (by decide) (fun w hw => (by simp [execOp, ev, upd, eqGuard, f0, f24, f25, f30, f38])) ?_
    refine QF.val (.pointer (some ⟨w0.heap.size + E, 39, none⟩)) rfl rfl (by decide) (fun w hw => (by simp [execOp, ev, upd, eqGuard, f0, f24, f25, f30, f38, field58_4])) ?_
    refine QF.val (.map (some w0.heap.size)) rfl rfl (by decide) (fun w hw => (x_loadA 34 _ _ (⟨w0.heap.size + E, 39, none⟩) (.map (some w0.heap.size)) rfl Yba.underlying34 rfl (by simp [ev, upd, f0, f24, f25, f30, f38]) (cell_at (RepX.block hw hM.oE) (evd_39 _)))) ?_
    refine QF.move _ (.slice (some x) n c) rfl rfl (by decide) rfl (by simp [ev, upd, f0, f24, f25, f30, f38]) ?_
    refine QF.move _ (.int .i64 (k : Int)) rfl rfl (by decide) rfl (by simp [ev, upd, f0, f24, f25, f30, f38]) ?_
    refine QF.val (.pointer (some (x.add k))) rfl rfl (by decide) (fun w hw => (by simp [execOp, ev, upd, eqGuard, f0, f24, f25, f30, f38, index22 _ x n c k hk])) ?_
    refine QF.val (.int .u8 (zs.getD k 0)) rfl rfl (by decide) (fun w hw => (x_loadA 5 _ _ (x.add k) (.int .u8 (zs.getD k 0)) rfl Yba.underlying5 rfl (by simp [ev, upd, f0, f24, f25, f30, f38]) (hcell hw k hk))) ?_
    refine QF.call 8 #[.int .u8 (zs.getD k 0)] (.agg (dig (sel zs k))) rfl rfl (by decide) (fun w hw => x_call 8 _ _ _ _ rfl Yba.func8 (by kernel_rfl) rfl (by simp [ev, upd, f0, f24, f25, f30, f38]) rfl) (fun w hw => (dig_any _ _ (hz k hk)).mono (fun e w' ⟨v, he, hv, hr'⟩ => ⟨by rw [he, hv, sel_int], RepX.grow hw hr'⟩)) ?_
    refine QF.val (.pointer (some ⟨w0.heap.size + 3 + 3 * r, 0, none⟩)) rfl rfl (by decide) (fun w hw => (by simp [execOp, ev, upd, eqGuard, f0, f24, f25, f30, f38, hL.look (b := w0.heap.size) (sel_lt zs k) hlock (RepX.block (i := 0) hw hM.o0)])) ?_
    refine QF.move _ (.slice (some ⟨w0.heap.size + 1, 0, none⟩) n n) rfl rfl (by decide) rfl (by simp [ev, upd, f0, f24, f25, f30, f38]) ?_
    refine QF.move _ (.slice (some x) n c) rfl rfl (by decide) rfl (by simp [ev, upd, f0, f24, f25, f30, f38]) ?_
    refine QF.move _ (.int .i64 (k : Int)) rfl rfl (by decide) rfl (by simp [ev, upd, f0, f24, f25, f30, f38]) ?_
    refine QF.val (.pointer (some (x.add k))) rfl rfl (by decide) (fun w hw => (by simp [execOp, ev, upd, eqGuard, f0, f24, f25, f30, f38, index22 _ x n c k hk])) ?_
    refine QF.val (.int .u8 (zs.getD k 0)) rfl rfl (by decide) (fun w hw => (x_loadA 5 _ _ (x.add k) (.int .u8 (zs.getD k 0)) rfl Yba.underlying5 rfl (by simp [ev, upd, f0, f24, f25, f30, f38]) (hcell hw k hk))) ?_
    refine QF.val (.int .u8 (sel zs k)) rfl rfl (by decide) (fun w hw => (by simp [execOp, ev, upd, eqGuard, f0, f24, f25, f30, f38, go_sem, htm hk])) ?_
    refine QF.val (.pointer (some ⟨w0.heap.size + 2, sel zs k, none⟩)) rfl rfl (by decide) (fun w hw => (by simp [execOp, ev, upd, eqGuard, f0, f24, f25, f30, f38, index36 _ _ _ _ (sel_lt zs k)])) ?_
    refine QF.val (.int .i64 (r : Int)) rfl rfl (by decide) (fun w hw => (x_loadA 3 _ _ (⟨w0.heap.size + 2, sel zs k, none⟩) (.int .i64 (r : Int)) rfl Yba.underlying3 rfl (by simp [ev, upd, f0, f24, f25, f30, f38]) (cell_at (RepX.block hw hM.o2) hlastc))) ?_
    refine QF.val (.pointer (some ⟨w0.heap.size + 1, r, none⟩)) rfl rfl (by decide) (fun w hw => (by simp [execOp, ev, upd, eqGuard, f0, f24, f25, f30, f38, index35 _ _ n n r hrn])) ?_
    refine QF.val (.pointer (some ⟨w0.heap.size + 3 + 3 * r, 0, none⟩)) rfl rfl (by decide) (fun w hw => (x_loadA 37 _ _ (⟨w0.heap.size + 1, r, none⟩) (.pointer (some ⟨w0.heap.size + 3 + 3 * r, 0, none⟩)) rfl Yba.underlying37 rfl (by simp [ev, upd, f0, f24, f25, f30, f38]) (cell_at (RepX.block hw hM.o1) (ptrArr_at _ n n r hrn hrn)))) ?_
    refine QF.val (.bool false) rfl rfl (by decide) (fun w hw => (by simp [execOp, ev, upd, eqGuard, f0, f24, f25, f30, f38, neq37_same])) ?_
    refine QF.nil fun w1 hX1 => ?_
    show CF _ _ _ _ _ _
    refine CF.condF (by simp [ev, upd]) (CF.skip ?_)
    show CF _ _ _ _ _ _
    refine CF.seq (CF.region ?_)
    -- region 55
    refine RF.move _ (.slice (some ⟨w0.heap.size + 1, 0, none⟩) n n) rfl rfl (by decide) rfl (by simp [ev, upd, f0, f24, f25, f30, f38]) ?_
    refine RF.move _ (.int .i64 (k : Int)) rfl rfl (by decide) rfl (by simp [ev, upd, f0, f24, f25, f30, f38]) ?_
    refine RF.run (.pointer (some ⟨w0.heap.size + 1, k, none⟩)) rfl rfl (by decide) (by simp [execOp, ev, upd, eqGuard, f0, f24, f25, f30, f38, index35 _ _ n n k hk]) ?_
    refine RF.run (.pointer (some ⟨w0.heap.size + 3 + 3 * k, 0, none⟩)) rfl rfl (by decide) (x_loadA 37 _ _ (⟨w0.heap.size + 1, k, none⟩) (.pointer (some ⟨w0.heap.size + 3 + 3 * k, 0, none⟩)) rfl Yba.underlying37 rfl (by simp [ev, upd, f0, f24, f25, f30, f38]) (cell_at (RepX.block hX1 hM.o1) (ptrArr_at _ n n k hk hk))) ?_
    refine RF.run (.pointer (some ⟨w0.heap.size + 3 + 3 * k, 0, none⟩)) rfl rfl (by decide) (by simp [execOp, ev, upd, eqGuard, f0, f24, f25, f30, f38]) ?_
    refine RF.run (.pointer (some ⟨w0.heap.size + 3 + 3 * k, 2, none⟩)) rfl rfl (by decide) (by simp [execOp, ev, upd, eqGuard, f0, f24, f25, f30, f38, field44_2]) ?_
    refine RF.run (.int .u64 (k : Int)) rfl rfl (by decide) (x_loadA 38 _ _ (⟨w0.heap.size + 3 + 3 * k, 2, none⟩) (.int .u64 (k : Int)) rfl Yba.underlying38 rfl (by simp [ev, upd, f0, f24, f25, f30, f38]) (cell_at (by have := RepX.block hX1 (hM.om k hk); rw [← Nat.add_assoc] at this; exact this) rfl)) ?_
    refine RF.move _ (.int .i64 (k : Int)) rfl rfl (by decide) rfl (by simp [ev, upd, f0, f24, f25, f30, f38]) ?_
    refine RF.run (.int .u64 (k : Int)) rfl rfl (by decide) (by simp [execOp, ev, upd, eqGuard, f0, f24, f25, f30, f38, conv38 _ k (by omega)]) ?_
    refine RF.run (.bool false) rfl rfl (by decide) (by simp [execOp, ev, upd, eqGuard, f0, f24, f25, f30, f38, go_sem]) ?_
    refine RF.move _ (.bool false) rfl rfl (by decide) rfl (by simp [ev, upd, f0, f24, f25, f30, f38]) ?_
    refine RF.runG (.slice (some ⟨w0.heap.size + 1, 0, none⟩) n n) (t := 267) rfl rfl (by decide) (by simp [ev, upd, f0, f24, f25, f30, f38]) rfl (by decide) (by simp [execOp, ev, upd, f0, f24, f25, f30, f38]) ?_
    refine RF.runG (.int .i64 (k : Int)) (t := 267) rfl rfl (by decide) (by simp [ev, upd, f0, f24, f25, f30, f38]) rfl (by decide) (by simp [execOp, ev, upd, f0, f24, f25, f30, f38]) ?_
    refine RF.runG (.pointer (some ⟨w0.heap.size + 1, k, none⟩)) (t := 267) rfl rfl (by decide) (by simp [ev, upd, f0, f24, f25, f30, f38]) rfl (by decide) (by simp [execOp, ev, upd, eqGuard, f0, f24, f25, f30, f38, index35 _ _ n n k hk]) ?_
    refine RF.runG (.pointer (some ⟨w0.heap.size + 3 + 3 * k, 0, none⟩)) (t := 267) rfl rfl (by decide) (by simp [ev, upd, f0, f24, f25, f30, f38]) rfl (by decide) (x_loadA 37 _ _ (⟨w0.heap.size + 1, k, none⟩) (.pointer (some ⟨w0.heap.size + 3 + 3 * k, 0, none⟩)) rfl Yba.underlying37 rfl (by simp [ev, upd, f0, f24, f25, f30, f38]) (cell_at (RepX.block hX1 hM.o1) (ptrArr_at _ n n k hk hk))) ?_
    refine RF.runG (.pointer (some ⟨w0.heap.size + 3 + 3 * k, 0, none⟩)) (t := 267) rfl rfl (by decide) (by simp [ev, upd, f0, f24, f25, f30, f38]) rfl (by decide) (by simp [execOp, ev, upd, eqGuard, f0, f24, f25, f30, f38]) ?_
    refine RF.runG (.pointer (some ⟨w0.heap.size + 3 + 3 * k, 6, none⟩)) (t := 267) rfl rfl (by decide) (by simp [ev, upd, f0, f24, f25, f30, f38]) rfl (by decide) (by simp [execOp, ev, upd, eqGuard, f0, f24, f25, f30, f38, field44_6]) ?_
    refine RF.runG (.pointer none) (t := 267) rfl rfl (by decide) (by simp [ev, upd, f0, f24, f25, f30, f38]) rfl (by decide) (x_loadA 37 _ _ (⟨w0.heap.size + 3 + 3 * k, 6, none⟩) (.pointer none) rfl Yba.underlying37 rfl (by simp [ev, upd, f0, f24, f25, f30, f38]) (cell_at (by have := RepX.block hX1 (hM.om k hk); rw [← Nat.add_assoc] at this; exact this) rfl)) ?_
    refine RF.runG (.bool false) (t := 267) rfl rfl (by decide) (by simp [ev, upd, f0, f24, f25, f30, f38]) rfl (by decide) (by simp [execOp, ev, upd, eqGuard, f0, f24, f25, f30, f38, nil37]) ?_
    refine RF.run (.bool false) rfl rfl (by decide) (by simp [execOp, ev, upd, eqGuard, f0, f24, f25, f30, f38, asBool]) ?_
    refine RF.move _ (.bool false) rfl rfl (by decide) rfl (by simp [ev, upd, f0, f24, f25, f30, f38]) ?_
    refine RF.runG (.slice (some ⟨w0.heap.size + 1, 0, none⟩) n n) (t := 277) rfl rfl (by decide) (by simp [ev, upd, f0, f24, f25, f30, f38]) rfl (by decide) (by simp [execOp, ev, upd, f0, f24, f25, f30, f38]) ?_
    refine RF.runG (.int .i64 (k : Int)) (t := 277) rfl rfl (by decide) (by simp [ev, upd, f0, f24, f25, f30, f38]) rfl (by decide) (by simp [execOp, ev, upd, f0, f24, f25, f30, f38]) ?_
    refine RF.runG (.pointer (some ⟨w0.heap.size + 1, k, none⟩)) (t := 277) rfl rfl (by decide) (by simp [ev, upd, f0, f24, f25, f30, f38]) rfl (by decide) (by simp [execOp, ev, upd, eqGuard, f0, f24, f25, f30, f38, index35 _ _ n n k hk]) ?_
    refine RF.runG (.pointer (some ⟨w0.heap.size + 3 + 3 * k, 0, none⟩)) (t := 277) rfl rfl (by decide) (by simp [ev, upd, f0, f24, f25, f30, f38]) rfl (by decide) (x_loadA 37 _ _ (⟨w0.heap.size + 1, k, none⟩) (.pointer (some ⟨w0.heap.size + 3 + 3 * k, 0, none⟩)) rfl Yba.underlying37 rfl (by simp [ev, upd, f0, f24, f25, f30, f38]) (cell_at (RepX.block hX1 hM.o1) (ptrArr_at _ n n k hk hk))) ?_
    refine RF.runG (.pointer (some ⟨w0.heap.size + 3 + 3 * k, 0, none⟩)) (t := 277) rfl rfl (by decide) (by simp [ev, upd, f0, f24, f25, f30, f38]) rfl (by decide) (by simp [execOp, ev, upd, eqGuard, f0, f24, f25, f30, f38]) ?_
    refine RF.runG (.pointer (some ⟨w0.heap.size + 3 + 3 * k, 7, none⟩)) (t := 277) rfl rfl (by decide) (by simp [ev, upd, f0, f24, f25, f30, f38]) rfl (by decide) (by simp [execOp, ev, upd, eqGuard, f0, f24, f25, f30, f38, field44_7]) ?_
    refine RF.runG (.pointer none) (t := 277) rfl rfl (by decide) (by simp [ev, upd, f0, f24, f25, f30, f38]) rfl (by decide) (x_loadA 42 _ _ (⟨w0.heap.size + 3 + 3 * k, 7, none⟩) (.pointer none) rfl Yba.underlying42 rfl (by simp [ev, upd, f0, f24, f25, f30, f38]) (cell_at (by have := RepX.block hX1 (hM.om k hk); rw [← Nat.add_assoc] at this; exact this) rfl)) ?_
    refine RF.runG (.bool false) (t := 277) rfl rfl (by decide) (by simp [ev, upd, f0, f24, f25, f30, f38]) rfl (by decide) (by simp [execOp, ev, upd, eqGuard, f0, f24, f25, f30, f38, nil42]) ?_
    refine RF.run (.bool false) rfl rfl (by decide) (by simp [execOp, ev, upd, eqGuard, f0, f24, f25, f30, f38, asBool]) ?_
    refine RF.done ?_
    refine CF.condF (by simp [ev, upd]) (CF.skip ?_)
    show CF _ _ _ _ _ _
    refine CF.region ?_
    -- region 52
    refine RF.move _ (.int .i64 (k : Int)) rfl rfl (by decide) rfl (by simp [ev, upd, f0, f24, f25, f30, f38]) ?_
    refine RF.run (.int .i64 ((k + 1 : Nat) : Int)) rfl rfl (by decide) (by simp [execOp, ev, upd, eqGuard, f0, f24, f25, f30, f38, go_sem, hwrap]) ?_
    refine RF.assign _ (.int .i64 ((k + 1 : Nat) : Int)) rfl rfl (by decide) rfl (by simp [ev, upd, f0, f24, f25, f30, f38]) ?_
    refine RF.nil ?_
    refine hnext _ w1 hk ⟨?_, by simp [upd, f24], by simp [upd, f25], by simp [upd, f30], hX1⟩ (by simp [upd])
    repeat (refine Par.upd ?_ (by decide) _)
    exact hP
  · refine CF.condF (by simp [ev, upd, hk]) (CF.exit ?_)
    refine hout _ _ ⟨?_, by simp [upd, f24], by simp [upd, f25], by simp [upd, f30], hX⟩
    repeat (refine Par.upd ?_ (by decide) _)
    exact hP

/-- From the last loop to the end. -/
theorem tail50 {w0 w : World} {zs : List Int} {f : Nat → Value} {mo : Obj} {sq E W : Nat} {lk dp : Option Addr} {os : List Obj} (x : Addr) (ha : 0 < n → a = some x) (hn : n ≤ 1048576)
    (hcell : ∀ {w' : World}, RepX w0 w' os → ∀ i, i < n → w'.cell? (x.add i) = some (.int .u8 (zs.getD i 0))) (hz : ∀ i, i < n → 0 ≤ zs.getD i 0)
    (hM : Mem mo w0.heap.size n zs sq E W hl hd lr lk dp os) (hL : Locks mo n (locksOf w0.heap.size zs n))
    (hI : Inv3 w0 os E a n c hd ds hl lr kd ht rd fm va vn vc sa sn sc f w) :
    CF Yba.prog 287 (tailFrom 50 (Yba.f4.body.getD .skip)) (endF Yba.prog Yba.f4 fun e w' => e = .returned (.bool true) ∧ Below w0.heap.size w0 w') f w := by
  refine CF.seq (CF.seq (CF.region ?_))
  refine RF.assign _ (.int .i64 ((0 : Nat) : Int)) rfl rfl (by decide) rfl rfl (RF.done ?_)
  refine CF.block ?_
  refine CF.loop (fun f w => ∃ k : Nat, k ≤ n ∧ f 38 = .int .i64 (k : Int) ∧ Inv3 w0 os E a n c hd ds hl lr kd ht rd fm va vn vc sa sn sc f w) (fun f _ => n - (intOf (f 38)).toNat) ?_ ?_
  · refine ⟨0, Nat.zero_le _, by simp [upd], ?_⟩
    obtain ⟨hP, f24, f25, f30, hX⟩ := hI
    exact ⟨hP.upd (by decide) _, by simp [upd, f24], by simp [upd, f25], by simp [upd, f30], hX⟩
  · rintro f1 w1 ⟨k, hkn, f38, hI1⟩
    refine round3 (mo := mo) (sq := sq) (E := E) (W := W) (lk := lk) (dp := dp) x ha hn hkn hcell hz hM hL hI1 f38 (fun f2 w2 hI2 => ?_) (fun f2 w2 hk hI2 h38 => ?_)
    · show CF _ _ _ _ _ _
      refine CF.seq (CF.region ?_)
      refine RF.assign _ (.bool true) rfl rfl (by decide) rfl rfl (RF.done ?_)
      refine CF.ret ?_
      exact endF_tmp rfl ⟨by simp [upd], hI2.2.2.2.2.below⟩
    · refine ⟨⟨k + 1, by omega, h38, hI2⟩, ?_⟩
      rw [h38, f38]
      simp [intOf]
      omega

end
end Go.Proofs.Ybulkebfq

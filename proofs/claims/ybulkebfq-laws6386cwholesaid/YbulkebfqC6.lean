/-
  LawS6386CWhole: its checks behind withLock.
-/
import Derived.Test.YbulkebfqC5
namespace Go.Proofs.Ybulkebfq
open Go.RowKit
set_option linter.unusedSimpArgs false
set_option linter.unusedVariables false

theorem neq37_self (w : World) (p : Option Addr) : (binOp .neq 37 (.pointer p) (.pointer p)).run Yba.prog w = .ok (.bool false) w := by
  cases p
  · rw [nil37]; rfl
  · exact neq37_same w _
theorem neq42_self (w : World) (p : Option Addr) : (binOp .neq 42 (.pointer p) (.pointer p)).run Yba.prog w = .ok (.bool false) w := by
  cases p
  · rw [nil42]; rfl
  · exact neq42_same w _
theorem neq45_0 (w : World) : (binOp .neq 45 (.agg (dig 0)) (.agg (dig 0))).run Yba.prog w = .ok (.bool false) w := by kernel_rfl
theorem neq45_1 (w : World) : (binOp .neq 45 (.agg (dig 1)) (.agg (dig 1))).run Yba.prog w = .ok (.bool false) w := by kernel_rfl
theorem neq45_2 (w : World) : (binOp .neq 45 (.agg (dig 2)) (.agg (dig 2))).run Yba.prog w = .ok (.bool false) w := by kernel_rfl
theorem neq45_3 (w : World) : (binOp .neq 45 (.agg (dig 3)) (.agg (dig 3))).run Yba.prog w = .ok (.bool false) w := by kernel_rfl
theorem neq45 (w : World) (j : Nat) (h : j < 4) : (binOp .neq 45 (.agg (dig j)) (.agg (dig j))).run Yba.prog w = .ok (.bool false) w := by
  rcases (show j = 0 ∨ j = 1 ∨ j = 2 ∨ j = 3 from by omega) with rfl | rfl | rfl | rfl
  · exact neq45_0 w
  · exact neq45_1 w
  · exact neq45_2 w
  · exact neq45_3 w
theorem guard45 (w : World) (x y : Operand) (u v : Array Value) : (eqGuard .neq 45 x y (.agg u) (.agg v)).run Yba.prog w = .ok () w := by
  have h : Yba.prog.eqGuardType Yba.prog.depth 45 = false := by kernel_rfl
  simp [eqGuard, h]
theorem eqlnil22 (w : World) (p : Option Addr) (n c : Nat) : (binOp .eql 22 (.slice p n c) (.slice none 0 0)).run Yba.prog w = .ok (.bool p.isNone) w := by
  exact run_eql_slice_nil w 22 5 p n c Yba.underlying22
theorem neqnil41 (w : World) : (binOp .neq 41 (.slice none 0 0) (.slice none 0 0)).run Yba.prog w = .ok (.bool false) w := by kernel_rfl

/-- What withLock hands back. -/
def rs (kd ht rd fm : Int) (va : Option Addr) (vn vc : Nat) (rl rg : Option Addr) (sa : Option Addr) (sn sc : Nat) : Array Value :=
  #[.int .u8 kd, .int .u64 ht, .int .u64 rd, .int .i64 fm, .slice va vn vc, .slice none 0 0, .pointer rl, .pointer rg, .slice sa sn sc]

theorem wanted_undef {n : Nat} {a : Act} {f : Nat → Value} {ops : Array Oper} {o : Oper} (ha : Fr n a f) {j t : Nat} {b : Bool} (hg : o.guard = some (j, b)) (hj : (ops[j]?).bind (·.dst) = some t) (hv : f t = undef) :
    Region.wanted o (yielded ops a.tmps) = false := by
  have e : yielded ops a.tmps j = none := by
    unfold yielded
    rw [hj]
    have h1 : a.eval (.tmp t) = undef := by rw [ha.2.2, ev_tmp, hv]
    simp only [Option.bind_some]
    cases h2 : a.tmps[t]? with
    | none => rfl
    | some u =>
      simp [Act.eval, Array.getD_eq_getD_getElem?, h2] at h1
      subst h1
      rfl
  simp [Region.wanted, hg, e]

theorem RF.skipU {P : Program} {n : Nat} {Q : Exit → (Nat → Value) → World → Prop} {f : Nat → Value} {w : World} {ops : Array Oper} {o : Oper} {rest : List Oper} {d j t : Nat} {b : Bool} (hg : o.guard = some (j, b)) (hj : (ops[j]?).bind (·.dst) = some t) (hv : f t = undef) (hd : o.dst = some d) (hn : d < n)
    (h : RF P n ops rest Q (upd f d undef) w) : RF P n ops (o :: rest) Q f w := fun a ha => by
  refine wpList_step fun K hK => ?_
  rw [if_neg (by rw [wanted_undef ha hg hj hv]; simp)]
  exact hK _ _ (h _ (ha.put' hd hn undef))

section
variable {a : Option Addr} {n c : Nat} {hd : Bool} {ds : Int} {hl : Bool} {lr kd ht rd fm : Int} {va : Option Addr} {vn vc : Nat} {sa : Option Addr} {sn sc : Nat}

/-- The named slots behind withLock's call. -/
structure St (H E W M : Nat) (lk dp : Option Addr) (dn : Int) (lj : Int) (f : Nat → Value) (a : Option Addr) (n c : Nat) (hd : Bool) (ds : Int) (hl : Bool) (lr kd ht rd fm : Int) (va : Option Addr) (vn vc : Nat) (sa : Option Addr) (sn sc : Nat) : Prop where
  par : Par f a n c hd ds hl lr kd ht rd fm va vn vc sa sn sc
  f24 : f 24 = .slice (some ⟨H + 1, 0, none⟩) n n
  f25 : f 25 = .pointer (some ⟨H + 2, 0, none⟩)
  f28 : f 28 = .int .i64 dn
  f30 : f 30 = .pointer (some ⟨H + E, 0, none⟩)
  f31 : f 31 = .pointer lk
  f32 : f 32 = .pointer (some ⟨H + W, 0, none⟩)
  f33 : f 33 = .pointer dp
  f36 : f 36 = .pointer (some ⟨H + M, 0, none⟩)
  f37 : f 37 = .int .i64 lj

theorem St.upd {H E W M : Nat} {lk dp : Option Addr} {dn lj : Int} {f : Nat → Value} (h : St H E W M lk dp dn lj f a n c hd ds hl lr kd ht rd fm va vn vc sa sn sc) {d : Nat} (hd' : 39 ≤ d) (v : Value) :
    St H E W M lk dp dn lj (upd f d v) a n c hd ds hl lr kd ht rd fm va vn vc sa sn sc :=
  ⟨h.par.upd (by omega) v, by rw [upd_ne _ _ _ _ (by omega)]; exact h.f24, by rw [upd_ne _ _ _ _ (by omega)]; exact h.f25, by rw [upd_ne _ _ _ _ (by omega)]; exact h.f28, by rw [upd_ne _ _ _ _ (by omega)]; exact h.f30,
   by rw [upd_ne _ _ _ _ (by omega)]; exact h.f31, by rw [upd_ne _ _ _ _ (by omega)]; exact h.f32, by rw [upd_ne _ _ _ _ (by omega)]; exact h.f33, by rw [upd_ne _ _ _ _ (by omega)]; exact h.f36, by rw [upd_ne _ _ _ _ (by omega)]; exact h.f37⟩

set_option maxHeartbeats 1000000 in
theorem tail48 {w0 w : World} {zs : List Int} {f : Nat → Value} {mo : Obj} {sq E W M : Nat} {lk dp : Option Addr} {os : List Obj} (x : Addr) (ha : 0 < n → a = some x) (hn : n ≤ 1048576)
    (hcell : ∀ {w' : World}, RepX w0 w' os → ∀ i, i < n → w'.cell? (x.add i) = some (.int .u8 (zs.getD i 0))) (hz : ∀ i, i < n → 0 ≤ zs.getD i 0) (hsq : sq < 4)
    (hM : Mem mo w0.heap.size n zs sq E W hl hd lr lk dp os) (hL : Locks mo n (locksOf w0.heap.size zs n))
    (hS : St w0.heap.size E W M lk dp (cnt (locksOf w0.heap.size zs n)) (lastV (lastOf zs n sq)) f a n c hd ds hl lr kd ht rd fm va vn vc sa sn sc) (hX : RepX w0 w os) :
    CF Yba.prog 287 (tailFrom 48 (Yba.f4.body.getD .skip)) (endF Yba.prog Yba.f4 fun e w' => e = .returned (.bool true) ∧ Below w0.heap.size w0 w') f w := by
  obtain ⟨⟨f0, f1, f2, f3, f4, f5, f6, f7, f8, f9, f10⟩, f24, f25, f28, f30, f31, f32, f33, f36, f37⟩ := id hS
  refine CF.seq (CF.seq (CF.region ?_))
  -- region 48
  refine RF.move _ (.pointer (some ⟨w0.heap.size + E, 0, none⟩)) rfl rfl (by decide) rfl (by simp [ev, upd, f0, f1, f2, f3, f4, f5, f6, f7, f8, f9, f10, f24, f25, f28, f30, f31, f32, f33, f36, f37]) ?_
  refine RF.run (.pointer (some ⟨w0.heap.size + E, 0, none⟩)) rfl rfl (by decide) (by simp [execOp, ev, upd, eqGuard, f0, f1, f2, f3, f4, f5, f6, f7, f8, f9, f10, f24, f25, f28, f30, f31, f32, f33, f36, f37]) ?_
  refine RF.run (.pointer (some ⟨w0.heap.size + E, 39, none⟩)) rfl rfl (by decide) (by simp [execOp, ev, upd, eqGuard, f0, f1, f2, f3, f4, f5, f6, f7, f8, f9, f10, f24, f25, f28, f30, f31, f32, f33, f36, f37, field58_4]) ?_
  refine RF.run (.map (some w0.heap.size)) rfl rfl (by decide) (x_loadA 34 _ _ (⟨w0.heap.size + E, 39, none⟩) (.map (some w0.heap.size)) rfl Yba.underlying34 rfl (by simp [ev, upd, f0, f1, f2, f3, f4, f5, f6, f7, f8, f9, f10, f24, f25, f28, f30, f31, f32, f33, f36, f37]) (cell_at (hX.block hM.oE) (evd_39 _))) ?_
  refine RF.run (.int .i64 (cnt (locksOf w0.heap.size zs n))) rfl rfl (by decide) (x_len _ 34 (.map (some w0.heap.size)) _ rfl (by simp [ev, upd, f0, f1, f2, f3, f4, f5, f6, f7, f8, f9, f10, f24, f25, f28, f30, f31, f32, f33, f36, f37]) (hL.len (b := w0.heap.size) (hX.block (i := 0) hM.o0) _)) ?_
  refine RF.move _ (.int .i64 (cnt (locksOf w0.heap.size zs n))) rfl rfl (by decide) rfl (by simp [ev, upd, f0, f1, f2, f3, f4, f5, f6, f7, f8, f9, f10, f24, f25, f28, f30, f31, f32, f33, f36, f37]) ?_
  refine RF.run (.bool false) rfl rfl (by decide) (by simp [execOp, ev, upd, eqGuard, f0, f1, f2, f3, f4, f5, f6, f7, f8, f9, f10, f24, f25, f28, f30, f31, f32, f33, f36, f37, go_sem]) ?_
  refine RF.done (CF.condF (by simp [ev, upd]) (CF.skip ?_))
  refine tail50 (mo := mo) (sq := sq) (E := E) (W := W) (lk := lk) (dp := dp) x ha hn hcell hz hM hL (a := a) (c := c) (ds := ds) (kd := kd) (ht := ht) (rd := rd) (fm := fm) (va := va) (vn := vn) (vc := vc) (sa := sa) (sn := sn) (sc := sc) ⟨?_, by simp [upd, f24], by simp [upd, f25], by simp [upd, f30], hX⟩
  repeat (refine Par.upd ?_ (by decide) _)
  exact hS.par

set_option maxHeartbeats 1000000 in
theorem tail46 {w0 w : World} {zs : List Int} {f : Nat → Value} {mo : Obj} {sq E W M : Nat} {lk dp : Option Addr} {os : List Obj} (x : Addr) (ha : 0 < n → a = some x) (hn : n ≤ 1048576)
    (hcell : ∀ {w' : World}, RepX w0 w' os → ∀ i, i < n → w'.cell? (x.add i) = some (.int .u8 (zs.getD i 0))) (hz : ∀ i, i < n → 0 ≤ zs.getD i 0) (hsq : sq < 4)
    (hM : Mem mo w0.heap.size n zs sq E W hl hd lr lk dp os) (hL : Locks mo n (locksOf w0.heap.size zs n))
    (hS : St w0.heap.size E W M lk dp (cnt (locksOf w0.heap.size zs n)) (lastV (lastOf zs n sq)) f a n c hd ds hl lr kd ht rd fm va vn vc sa sn sc) (hX : RepX w0 w os) :
    CF Yba.prog 287 (tailFrom 46 (Yba.f4.body.getD .skip)) (endF Yba.prog Yba.f4 fun e w' => e = .returned (.bool true) ∧ Below w0.heap.size w0 w') f w := by
  obtain ⟨⟨f0, f1, f2, f3, f4, f5, f6, f7, f8, f9, f10⟩, f24, f25, f28, f30, f31, f32, f33, f36, f37⟩ := id hS
  rcases hM.olk with ⟨rfl, rfl⟩ | ⟨rfl, L, rfl, hLo⟩
  · refine CF.seq (CF.seq (CF.region ?_))
    -- region 46, no lock
    -- region 46
    refine RF.move _ (.pointer none) rfl rfl (by decide) rfl (by simp [ev, upd, f0, f1, f2, f3, f4, f5, f6, f7, f8, f9, f10, f24, f25, f28, f30, f31, f32, f33, f36, f37]) ?_
    refine RF.run (.bool false) rfl rfl (by decide) (by simp [execOp, ev, upd, eqGuard, f0, f1, f2, f3, f4, f5, f6, f7, f8, f9, f10, f24, f25, f28, f30, f31, f32, f33, f36, f37, nil37]) ?_
    refine RF.move _ (.bool false) rfl rfl (by decide) rfl (by simp [ev, upd, f0, f1, f2, f3, f4, f5, f6, f7, f8, f9, f10, f24, f25, f28, f30, f31, f32, f33, f36, f37]) ?_
    refine RF.skipG (t := 201) rfl rfl (by decide) (by simp [ev, upd, f0, f1, f2, f3, f4, f5, f6, f7, f8, f9, f10, f24, f25, f28, f30, f31, f32, f33, f36, f37]) rfl (by decide) ?_
    refine RF.skipG (t := 201) rfl rfl (by decide) (by simp [ev, upd, f0, f1, f2, f3, f4, f5, f6, f7, f8, f9, f10, f24, f25, f28, f30, f31, f32, f33, f36, f37]) rfl (by decide) ?_
    refine RF.skipG (t := 201) rfl rfl (by decide) (by simp [ev, upd, f0, f1, f2, f3, f4, f5, f6, f7, f8, f9, f10, f24, f25, f28, f30, f31, f32, f33, f36, f37]) rfl (by decide) ?_
    refine RF.skipG (t := 201) rfl rfl (by decide) (by simp [ev, upd, f0, f1, f2, f3, f4, f5, f6, f7, f8, f9, f10, f24, f25, f28, f30, f31, f32, f33, f36, f37]) rfl (by decide) ?_
    refine RF.skipG (t := 201) rfl rfl (by decide) (by simp [ev, upd, f0, f1, f2, f3, f4, f5, f6, f7, f8, f9, f10, f24, f25, f28, f30, f31, f32, f33, f36, f37]) rfl (by decide) ?_
    refine RF.skipG (t := 201) rfl rfl (by decide) (by simp [ev, upd, f0, f1, f2, f3, f4, f5, f6, f7, f8, f9, f10, f24, f25, f28, f30, f31, f32, f33, f36, f37]) rfl (by decide) ?_
    refine RF.skipG (t := 201) rfl rfl (by decide) (by simp [ev, upd, f0, f1, f2, f3, f4, f5, f6, f7, f8, f9, f10, f24, f25, f28, f30, f31, f32, f33, f36, f37]) rfl (by decide) ?_
    refine RF.skipU (t := 208) rfl rfl (by simp [upd]) rfl (by decide) ?_
    refine RF.skipU (t := 208) rfl rfl (by simp [upd]) rfl (by decide) ?_
    refine RF.skipU (t := 208) rfl rfl (by simp [upd]) rfl (by decide) ?_
    refine RF.skipU (t := 208) rfl rfl (by simp [upd]) rfl (by decide) ?_
    refine RF.skipU (t := 208) rfl rfl (by simp [upd]) rfl (by decide) ?_
    refine RF.skipG (t := 201) rfl rfl (by decide) (by simp [ev, upd, f0, f1, f2, f3, f4, f5, f6, f7, f8, f9, f10, f24, f25, f28, f30, f31, f32, f33, f36, f37]) rfl (by decide) ?_
    refine RF.skipG (t := 201) rfl rfl (by decide) (by simp [ev, upd, f0, f1, f2, f3, f4, f5, f6, f7, f8, f9, f10, f24, f25, f28, f30, f31, f32, f33, f36, f37]) rfl (by decide) ?_
    refine RF.skipU (t := 215) rfl rfl (by simp [upd]) rfl (by decide) ?_
    refine RF.skipU (t := 215) rfl rfl (by simp [upd]) rfl (by decide) ?_
    refine RF.skipU (t := 215) rfl rfl (by simp [upd]) rfl (by decide) ?_
    refine RF.skipU (t := 215) rfl rfl (by simp [upd]) rfl (by decide) ?_
    refine RF.skipU (t := 215) rfl rfl (by simp [upd]) rfl (by decide) ?_
    refine RF.skipG (t := 201) rfl rfl (by decide) (by simp [ev, upd, f0, f1, f2, f3, f4, f5, f6, f7, f8, f9, f10, f24, f25, f28, f30, f31, f32, f33, f36, f37]) rfl (by decide) ?_
    refine RF.run (.bool false) rfl rfl (by decide) (by simp [execOp, ev, upd, eqGuard, f0, f1, f2, f3, f4, f5, f6, f7, f8, f9, f10, f24, f25, f28, f30, f31, f32, f33, f36, f37, asBool]) ?_
    refine RF.done (CF.condF (by simp [ev, upd]) (CF.skip ?_))
    refine tail48 (mo := mo) (sq := sq) (E := E) (W := W) (M := M) x ha hn hcell hz hsq hM hL (a := a) (c := c) (ds := ds) (kd := kd) (ht := ht) (rd := rd) (fm := fm) (va := va) (vn := vn) (vc := vc) (sa := sa) (sn := sn) (sc := sc) ?_ hX
    repeat (refine St.upd ?_ (by decide) _)
    exact hS
  · refine CF.seq (CF.seq (CF.region ?_))
    -- region 46
    refine RF.move _ (.pointer (some ⟨w0.heap.size + L, 0, none⟩)) rfl rfl (by decide) rfl (by simp [ev, upd, f0, f1, f2, f3, f4, f5, f6, f7, f8, f9, f10, f24, f25, f28, f30, f31, f32, f33, f36, f37]) ?_
    refine RF.run (.bool true) rfl rfl (by decide) (by simp [execOp, ev, upd, eqGuard, f0, f1, f2, f3, f4, f5, f6, f7, f8, f9, f10, f24, f25, f28, f30, f31, f32, f33, f36, f37, nil37]) ?_
    refine RF.move _ (.bool true) rfl rfl (by decide) rfl (by simp [ev, upd, f0, f1, f2, f3, f4, f5, f6, f7, f8, f9, f10, f24, f25, f28, f30, f31, f32, f33, f36, f37]) ?_
    refine RF.runG (.pointer (some ⟨w0.heap.size + L, 0, none⟩)) (t := 201) rfl rfl (by decide) (by simp [ev, upd, f0, f1, f2, f3, f4, f5, f6, f7, f8, f9, f10, f24, f25, f28, f30, f31, f32, f33, f36, f37]) rfl (by decide) (by simp [execOp, ev, upd, f0, f1, f2, f3, f4, f5, f6, f7, f8, f9, f10, f24, f25, f28, f30, f31, f32, f33, f36, f37]) ?_
    refine RF.runG (.pointer (some ⟨w0.heap.size + L, 0, none⟩)) (t := 201) rfl rfl (by decide) (by simp [ev, upd, f0, f1, f2, f3, f4, f5, f6, f7, f8, f9, f10, f24, f25, f28, f30, f31, f32, f33, f36, f37]) rfl (by decide) (by simp [execOp, ev, upd, eqGuard, f0, f1, f2, f3, f4, f5, f6, f7, f8, f9, f10, f24, f25, f28, f30, f31, f32, f33, f36, f37]) ?_
    refine RF.runG (.pointer (some ⟨w0.heap.size + L, 2, none⟩)) (t := 201) rfl rfl (by decide) (by simp [ev, upd, f0, f1, f2, f3, f4, f5, f6, f7, f8, f9, f10, f24, f25, f28, f30, f31, f32, f33, f36, f37]) rfl (by decide) (by simp [execOp, ev, upd, eqGuard, f0, f1, f2, f3, f4, f5, f6, f7, f8, f9, f10, f24, f25, f28, f30, f31, f32, f33, f36, f37, field44_2]) ?_
    refine RF.runG (.int .u64 lr) (t := 201) rfl rfl (by decide) (by simp [ev, upd, f0, f1, f2, f3, f4, f5, f6, f7, f8, f9, f10, f24, f25, f28, f30, f31, f32, f33, f36, f37]) rfl (by decide) (x_loadA 38 _ _ (⟨w0.heap.size + L, 2, none⟩) (.int .u64 lr) rfl Yba.underlying38 rfl (by simp [ev, upd, f0, f1, f2, f3, f4, f5, f6, f7, f8, f9, f10, f24, f25, f28, f30, f31, f32, f33, f36, f37]) (cell_at (hX.block hLo) rfl)) ?_
    refine RF.runG (.int .u64 lr) (t := 201) rfl rfl (by decide) (by simp [ev, upd, f0, f1, f2, f3, f4, f5, f6, f7, f8, f9, f10, f24, f25, f28, f30, f31, f32, f33, f36, f37]) rfl (by decide) (by simp [execOp, ev, upd, f0, f1, f2, f3, f4, f5, f6, f7, f8, f9, f10, f24, f25, f28, f30, f31, f32, f33, f36, f37]) ?_
    refine RF.runG (.bool false) (t := 201) rfl rfl (by decide) (by simp [ev, upd, f0, f1, f2, f3, f4, f5, f6, f7, f8, f9, f10, f24, f25, f28, f30, f31, f32, f33, f36, f37]) rfl (by decide) (by simp [execOp, ev, upd, eqGuard, f0, f1, f2, f3, f4, f5, f6, f7, f8, f9, f10, f24, f25, f28, f30, f31, f32, f33, f36, f37, go_sem]) ?_
    refine RF.runG (.bool false) (t := 201) rfl rfl (by decide) (by simp [ev, upd, f0, f1, f2, f3, f4, f5, f6, f7, f8, f9, f10, f24, f25, f28, f30, f31, f32, f33, f36, f37]) rfl (by decide) (by simp [execOp, ev, upd, f0, f1, f2, f3, f4, f5, f6, f7, f8, f9, f10, f24, f25, f28, f30, f31, f32, f33, f36, f37]) ?_
    refine RF.runG (.pointer (some ⟨w0.heap.size + L, 0, none⟩)) (t := 208) rfl rfl (by decide) (by simp [ev, upd, f0, f1, f2, f3, f4, f5, f6, f7, f8, f9, f10, f24, f25, f28, f30, f31, f32, f33, f36, f37]) rfl (by decide) (by simp [execOp, ev, upd, f0, f1, f2, f3, f4, f5, f6, f7, f8, f9, f10, f24, f25, f28, f30, f31, f32, f33, f36, f37]) ?_
    refine RF.runG (.pointer (some ⟨w0.heap.size + L, 0, none⟩)) (t := 208) rfl rfl (by decide) (by simp [ev, upd, f0, f1, f2, f3, f4, f5, f6, f7, f8, f9, f10, f24, f25, f28, f30, f31, f32, f33, f36, f37]) rfl (by decide) (by simp [execOp, ev, upd, eqGuard, f0, f1, f2, f3, f4, f5, f6, f7, f8, f9, f10, f24, f25, f28, f30, f31, f32, f33, f36, f37]) ?_
    refine RF.runG (.pointer (some ⟨w0.heap.size + L, 6, none⟩)) (t := 208) rfl rfl (by decide) (by simp [ev, upd, f0, f1, f2, f3, f4, f5, f6, f7, f8, f9, f10, f24, f25, f28, f30, f31, f32, f33, f36, f37]) rfl (by decide) (by simp [execOp, ev, upd, eqGuard, f0, f1, f2, f3, f4, f5, f6, f7, f8, f9, f10, f24, f25, f28, f30, f31, f32, f33, f36, f37, field44_6]) ?_
    refine RF.runG (.pointer none) (t := 208) rfl rfl (by decide) (by simp [ev, upd, f0, f1, f2, f3, f4, f5, f6, f7, f8, f9, f10, f24, f25, f28, f30, f31, f32, f33, f36, f37]) rfl (by decide) (x_loadA 37 _ _ (⟨w0.heap.size + L, 6, none⟩) (.pointer none) rfl Yba.underlying37 rfl (by simp [ev, upd, f0, f1, f2, f3, f4, f5, f6, f7, f8, f9, f10, f24, f25, f28, f30, f31, f32, f33, f36, f37]) (cell_at (hX.block hLo) rfl)) ?_
    refine RF.runG (.bool false) (t := 208) rfl rfl (by decide) (by simp [ev, upd, f0, f1, f2, f3, f4, f5, f6, f7, f8, f9, f10, f24, f25, f28, f30, f31, f32, f33, f36, f37]) rfl (by decide) (by simp [execOp, ev, upd, eqGuard, f0, f1, f2, f3, f4, f5, f6, f7, f8, f9, f10, f24, f25, f28, f30, f31, f32, f33, f36, f37, nil37]) ?_
    refine RF.runG (.bool false) (t := 201) rfl rfl (by decide) (by simp [ev, upd, f0, f1, f2, f3, f4, f5, f6, f7, f8, f9, f10, f24, f25, f28, f30, f31, f32, f33, f36, f37]) rfl (by decide) (by simp [execOp, ev, upd, eqGuard, f0, f1, f2, f3, f4, f5, f6, f7, f8, f9, f10, f24, f25, f28, f30, f31, f32, f33, f36, f37, asBool]) ?_
    refine RF.runG (.bool false) (t := 201) rfl rfl (by decide) (by simp [ev, upd, f0, f1, f2, f3, f4, f5, f6, f7, f8, f9, f10, f24, f25, f28, f30, f31, f32, f33, f36, f37]) rfl (by decide) (by simp [execOp, ev, upd, f0, f1, f2, f3, f4, f5, f6, f7, f8, f9, f10, f24, f25, f28, f30, f31, f32, f33, f36, f37]) ?_
    refine RF.runG (.pointer (some ⟨w0.heap.size + L, 0, none⟩)) (t := 215) rfl rfl (by decide) (by simp [ev, upd, f0, f1, f2, f3, f4, f5, f6, f7, f8, f9, f10, f24, f25, f28, f30, f31, f32, f33, f36, f37]) rfl (by decide) (by simp [execOp, ev, upd, f0, f1, f2, f3, f4, f5, f6, f7, f8, f9, f10, f24, f25, f28, f30, f31, f32, f33, f36, f37]) ?_
    refine RF.runG (.pointer (some ⟨w0.heap.size + L, 0, none⟩)) (t := 215) rfl rfl (by decide) (by simp [ev, upd, f0, f1, f2, f3, f4, f5, f6, f7, f8, f9, f10, f24, f25, f28, f30, f31, f32, f33, f36, f37]) rfl (by decide) (by simp [execOp, ev, upd, eqGuard, f0, f1, f2, f3, f4, f5, f6, f7, f8, f9, f10, f24, f25, f28, f30, f31, f32, f33, f36, f37]) ?_
    refine RF.runG (.pointer (some ⟨w0.heap.size + L, 7, none⟩)) (t := 215) rfl rfl (by decide) (by simp [ev, upd, f0, f1, f2, f3, f4, f5, f6, f7, f8, f9, f10, f24, f25, f28, f30, f31, f32, f33, f36, f37]) rfl (by decide) (by simp [execOp, ev, upd, eqGuard, f0, f1, f2, f3, f4, f5, f6, f7, f8, f9, f10, f24, f25, f28, f30, f31, f32, f33, f36, f37, field44_7]) ?_
    refine RF.runG (.pointer none) (t := 215) rfl rfl (by decide) (by simp [ev, upd, f0, f1, f2, f3, f4, f5, f6, f7, f8, f9, f10, f24, f25, f28, f30, f31, f32, f33, f36, f37]) rfl (by decide) (x_loadA 42 _ _ (⟨w0.heap.size + L, 7, none⟩) (.pointer none) rfl Yba.underlying42 rfl (by simp [ev, upd, f0, f1, f2, f3, f4, f5, f6, f7, f8, f9, f10, f24, f25, f28, f30, f31, f32, f33, f36, f37]) (cell_at (hX.block hLo) rfl)) ?_
    refine RF.runG (.bool false) (t := 215) rfl rfl (by decide) (by simp [ev, upd, f0, f1, f2, f3, f4, f5, f6, f7, f8, f9, f10, f24, f25, f28, f30, f31, f32, f33, f36, f37]) rfl (by decide) (by simp [execOp, ev, upd, eqGuard, f0, f1, f2, f3, f4, f5, f6, f7, f8, f9, f10, f24, f25, f28, f30, f31, f32, f33, f36, f37, nil42]) ?_
    refine RF.runG (.bool false) (t := 201) rfl rfl (by decide) (by simp [ev, upd, f0, f1, f2, f3, f4, f5, f6, f7, f8, f9, f10, f24, f25, f28, f30, f31, f32, f33, f36, f37]) rfl (by decide) (by simp [execOp, ev, upd, eqGuard, f0, f1, f2, f3, f4, f5, f6, f7, f8, f9, f10, f24, f25, f28, f30, f31, f32, f33, f36, f37, asBool]) ?_
    refine RF.run (.bool false) rfl rfl (by decide) (by simp [execOp, ev, upd, eqGuard, f0, f1, f2, f3, f4, f5, f6, f7, f8, f9, f10, f24, f25, f28, f30, f31, f32, f33, f36, f37, asBool]) ?_
    refine RF.done (CF.condF (by simp [ev, upd]) (CF.skip ?_))
    refine tail48 (mo := mo) (sq := sq) (E := E) (W := W) (M := M) x ha hn hcell hz hsq hM hL (a := a) (c := c) (ds := ds) (kd := kd) (ht := ht) (rd := rd) (fm := fm) (va := va) (vn := vn) (vc := vc) (sa := sa) (sn := sn) (sc := sc) ?_ hX
    repeat (refine St.upd ?_ (by decide) _)
    exact hS

set_option maxHeartbeats 1000000 in
theorem tail44 {w0 w : World} {zs : List Int} {f : Nat → Value} {mo : Obj} {sq E W M : Nat} {lk dp : Option Addr} {os : List Obj} (x : Addr) (ha : 0 < n → a = some x) (hn : n ≤ 1048576)
    (hcell : ∀ {w' : World}, RepX w0 w' os → ∀ i, i < n → w'.cell? (x.add i) = some (.int .u8 (zs.getD i 0))) (hz : ∀ i, i < n → 0 ≤ zs.getD i 0) (hsq : sq < 4)
    (hM : Mem mo w0.heap.size n zs sq E W hl hd lr lk dp os) (hL : Locks mo n (locksOf w0.heap.size zs n))
    (hS : St w0.heap.size E W M lk dp (cnt (locksOf w0.heap.size zs n)) (lastV (lastOf zs n sq)) f a n c hd ds hl lr kd ht rd fm va vn vc sa sn sc) (hX : RepX w0 w os) :
    CF Yba.prog 287 (tailFrom 44 (Yba.f4.body.getD .skip)) (endF Yba.prog Yba.f4 fun e w' => e = .returned (.bool true) ∧ Below w0.heap.size w0 w') f w := by
  obtain ⟨⟨f0, f1, f2, f3, f4, f5, f6, f7, f8, f9, f10⟩, f24, f25, f28, f30, f31, f32, f33, f36, f37⟩ := id hS
  rcases hM.odp with ⟨rfl, rfl⟩ | ⟨rfl, D, rfl, hDo⟩
  · refine CF.seq (CF.seq (CF.quiet (fun w' => RepX w0 w' os) (by kernel_rfl) (by kernel_rfl) (hX.drawn _) ?_))
    -- region 44
    refine QF.move _ (.pointer none) rfl rfl (by decide) rfl (by simp [ev, upd, f0, f1, f2, f3, f4, f5, f6, f7, f8, f9, f10, f24, f25, f28, f30, f31, f32, f33, f36, f37]) ?_
    refine QF.val (.bool false) rfl rfl (by decide) (fun w hw => (by simp [execOp, ev, upd, eqGuard, f0, f1, f2, f3, f4, f5, f6, f7, f8, f9, f10, f24, f25, f28, f30, f31, f32, f33, f36, f37, nil42])) ?_
    refine QF.move _ (.bool false) rfl rfl (by decide) rfl (by simp [ev, upd, f0, f1, f2, f3, f4, f5, f6, f7, f8, f9, f10, f24, f25, f28, f30, f31, f32, f33, f36, f37]) ?_
    refine QF.skipG (t := 192) rfl rfl (by decide) (by simp [ev, upd, f0, f1, f2, f3, f4, f5, f6, f7, f8, f9, f10, f24, f25, f28, f30, f31, f32, f33, f36, f37]) rfl (by decide) ?_
    refine QF.skipG (t := 192) rfl rfl (by decide) (by simp [ev, upd, f0, f1, f2, f3, f4, f5, f6, f7, f8, f9, f10, f24, f25, f28, f30, f31, f32, f33, f36, f37]) rfl (by decide) ?_
    refine QF.skipG (t := 192) rfl rfl (by decide) (by simp [ev, upd, f0, f1, f2, f3, f4, f5, f6, f7, f8, f9, f10, f24, f25, f28, f30, f31, f32, f33, f36, f37]) rfl (by decide) ?_
    refine QF.skipG (t := 192) rfl rfl (by decide) (by simp [ev, upd, f0, f1, f2, f3, f4, f5, f6, f7, f8, f9, f10, f24, f25, f28, f30, f31, f32, f33, f36, f37]) rfl (by decide) ?_
    refine QF.skipG (t := 192) rfl rfl (by decide) (by simp [ev, upd, f0, f1, f2, f3, f4, f5, f6, f7, f8, f9, f10, f24, f25, f28, f30, f31, f32, f33, f36, f37]) rfl (by decide) ?_
    refine QF.val (.bool false) rfl rfl (by decide) (fun w hw => (by simp [execOp, ev, upd, eqGuard, f0, f1, f2, f3, f4, f5, f6, f7, f8, f9, f10, f24, f25, f28, f30, f31, f32, f33, f36, f37, asBool])) ?_
    refine QF.nil fun w1 hX1 => ?_
    show CF _ _ _ _ _ _
    refine CF.condF (by simp [ev, upd]) (CF.skip ?_)
    refine tail46 (mo := mo) (sq := sq) (E := E) (W := W) (M := M) x ha hn hcell hz hsq hM hL (a := a) (c := c) (ds := ds) (kd := kd) (ht := ht) (rd := rd) (fm := fm) (va := va) (vn := vn) (vc := vc) (sa := sa) (sn := sn) (sc := sc) ?_ hX1
    repeat (refine St.upd ?_ (by decide) _)
    exact hS
  · refine CF.seq (CF.seq (CF.quiet (fun w' => RepX w0 w' os) (by kernel_rfl) (by kernel_rfl) (hX.drawn _) ?_))
    -- region 44
    refine QF.move _ (.pointer (some ⟨w0.heap.size + D, 0, none⟩)) rfl rfl (by decide) rfl (by simp [ev, upd, f0, f1, f2, f3, f4, f5, f6, f7, f8, f9, f10, f24, f25, f28, f30, f31, f32, f33, f36, f37]) ?_
    refine QF.val (.bool true) rfl rfl (by decide) (fun w hw => (by simp [execOp, ev, upd, eqGuard, f0, f1, f2, f3, f4, f5, f6, f7, f8, f9, f10, f24, f25, f28, f30, f31, f32, f33, f36, f37, nil42])) ?_
    refine QF.move _ (.bool true) rfl rfl (by decide) rfl (by simp [ev, upd, f0, f1, f2, f3, f4, f5, f6, f7, f8, f9, f10, f24, f25, f28, f30, f31, f32, f33, f36, f37]) ?_
    refine QF.valG (.pointer (some ⟨w0.heap.size + D, 0, none⟩)) (t := 192) rfl rfl (by decide) (by simp [ev, upd, f0, f1, f2, f3, f4, f5, f6, f7, f8, f9, f10, f24, f25, f28, f30, f31, f32, f33, f36, f37]) rfl (by decide) (fun w _ => (by simp [execOp, ev, upd, f0, f1, f2, f3, f4, f5, f6, f7, f8, f9, f10, f24, f25, f28, f30, f31, f32, f33, f36, f37])) ?_
    refine QF.valG (.pointer (some ⟨w0.heap.size + D, 0, none⟩)) (t := 192) rfl rfl (by decide) (by simp [ev, upd, f0, f1, f2, f3, f4, f5, f6, f7, f8, f9, f10, f24, f25, f28, f30, f31, f32, f33, f36, f37]) rfl (by decide) (fun w hw => (by simp [execOp, ev, upd, eqGuard, f0, f1, f2, f3, f4, f5, f6, f7, f8, f9, f10, f24, f25, f28, f30, f31, f32, f33, f36, f37])) ?_
    refine QF.valG (.agg (dig sq)) (t := 192) rfl rfl (by decide) (by simp [ev, upd, f0, f1, f2, f3, f4, f5, f6, f7, f8, f9, f10, f24, f25, f28, f30, f31, f32, f33, f36, f37]) rfl (by decide) (fun w hw => (x_loadRow 45 45 _ _ (w0.heap.size + D) (dig sq) (0, 0) rfl Yba.underlying45 rfl (by simp [ev, upd, f0, f1, f2, f3, f4, f5, f6, f7, f8, f9, f10, f24, f25, f28, f30, f31, f32, f33, f36, f37]) (RepX.block hw hDo) (dig_info _))) ?_
    refine QF.valG (.agg (dig sq)) (t := 192) rfl rfl (by decide) (by simp [ev, upd, f0, f1, f2, f3, f4, f5, f6, f7, f8, f9, f10, f24, f25, f28, f30, f31, f32, f33, f36, f37]) rfl (by decide) (fun w hw => (x_loadRow 45 45 _ _ (w0.heap.size + W) (dig sq) (0, 0) rfl Yba.underlying45 rfl (by simp [ev, upd, f0, f1, f2, f3, f4, f5, f6, f7, f8, f9, f10, f24, f25, f28, f30, f31, f32, f33, f36, f37]) (RepX.block hw hM.oW) (dig_info _))) ?_
    refine QF.valG (.bool false) (t := 192) rfl rfl (by decide) (by simp [ev, upd, f0, f1, f2, f3, f4, f5, f6, f7, f8, f9, f10, f24, f25, f28, f30, f31, f32, f33, f36, f37]) rfl (by decide) (fun w hw => (by simp [execOp, ev, upd, guard45, neq45 _ sq hsq])) ?_
    refine QF.val (.bool false) rfl rfl (by decide) (fun w hw => (by simp [execOp, ev, upd, eqGuard, f0, f1, f2, f3, f4, f5, f6, f7, f8, f9, f10, f24, f25, f28, f30, f31, f32, f33, f36, f37, asBool])) ?_
    refine QF.nil fun w1 hX1 => ?_
    show CF _ _ _ _ _ _
    refine CF.condF (by simp [ev, upd]) (CF.skip ?_)
    refine tail46 (mo := mo) (sq := sq) (E := E) (W := W) (M := M) x ha hn hcell hz hsq hM hL (a := a) (c := c) (ds := ds) (kd := kd) (ht := ht) (rd := rd) (fm := fm) (va := va) (vn := vn) (vc := vc) (sa := sa) (sn := sn) (sc := sc) ?_ hX1
    repeat (refine St.upd ?_ (by decide) _)
    exact hS

set_option maxHeartbeats 1000000 in
theorem tail39 {w0 w : World} {zs : List Int} {f : Nat → Value} {mo : Obj} {sq E W M : Nat} {lk dp : Option Addr} {os : List Obj} (x : Addr) (ha : 0 < n → a = some x) (hn : n ≤ 1048576)
    (hcell : ∀ {w' : World}, RepX w0 w' os → ∀ i, i < n → w'.cell? (x.add i) = some (.int .u8 (zs.getD i 0))) (hz : ∀ i, i < n → 0 ≤ zs.getD i 0) (hsq : sq < 4)
    (hM : Mem mo w0.heap.size n zs sq E W hl hd lr lk dp os) (hL : Locks mo n (locksOf w0.heap.size zs n))
    (hS : St w0.heap.size E W M lk dp (cnt (locksOf w0.heap.size zs n)) (lastV (lastOf zs n sq)) f a n c hd ds hl lr kd ht rd fm va vn vc sa sn sc) (hX : RepX w0 w os)
    {rl rg : Option Addr} (hoM : os[M]? = some (.cells (rs kd ht rd fm va vn vc rl rg sa sn sc) 44))
    (hres : (hd = true ∧ ∃ i, lastOf zs n sq = some i ∧ rl = some ⟨w0.heap.size + 3 + 3 * i, 0, none⟩ ∧ rg = none) ∨ ((hd = false ∨ lastOf zs n sq = none) ∧ rl = lk ∧ rg = dp)) :
    CF Yba.prog 287 (tailFrom 39 (Yba.f4.body.getD .skip)) (endF Yba.prog Yba.f4 fun e w' => e = .returned (.bool true) ∧ Below w0.heap.size w0 w') f w := by
  obtain ⟨⟨f0, f1, f2, f3, f4, f5, f6, f7, f8, f9, f10⟩, f24, f25, f28, f30, f31, f32, f33, f36, f37⟩ := id hS
  rcases hres with ⟨rfl, i, hlast, rfl, rfl⟩ | ⟨hno, rfl, rfl⟩
  · have hin : i < n := lastOf_lt zs n _ i hlast
    have hlv : lastV (lastOf zs n sq) = (i : Int) := by rw [hlast]; rfl
    refine CF.seq (CF.seq (CF.region ?_))
    -- region 39
    refine RF.move _ (.bool true) rfl rfl (by decide) rfl (by simp [ev, upd, f0, f1, f2, f3, f4, f5, f6, f7, f8, f9, f10, f24, f25, f28, f30, f31, f32, f33, f36, f37, hlv]) ?_
    refine RF.move _ (.bool true) rfl rfl (by decide) rfl (by simp [ev, upd, f0, f1, f2, f3, f4, f5, f6, f7, f8, f9, f10, f24, f25, f28, f30, f31, f32, f33, f36, f37, hlv]) ?_
    refine RF.runG (.int .i64 (i : Int)) (t := 164) rfl rfl (by decide) (by simp [ev, upd, f0, f1, f2, f3, f4, f5, f6, f7, f8, f9, f10, f24, f25, f28, f30, f31, f32, f33, f36, f37, hlv]) rfl (by decide) (by simp [execOp, ev, upd, f0, f1, f2, f3, f4, f5, f6, f7, f8, f9, f10, f24, f25, f28, f30, f31, f32, f33, f36, f37, hlv]) ?_
    refine RF.runG (.bool true) (t := 164) rfl rfl (by decide) (by simp [ev, upd, f0, f1, f2, f3, f4, f5, f6, f7, f8, f9, f10, f24, f25, f28, f30, f31, f32, f33, f36, f37, hlv]) rfl (by decide) (by simp [execOp, ev, upd, eqGuard, f0, f1, f2, f3, f4, f5, f6, f7, f8, f9, f10, f24, f25, f28, f30, f31, f32, f33, f36, f37, hlv, go_sem]) ?_
    refine RF.run (.bool true) rfl rfl (by decide) (by simp [execOp, ev, upd, eqGuard, f0, f1, f2, f3, f4, f5, f6, f7, f8, f9, f10, f24, f25, f28, f30, f31, f32, f33, f36, f37, hlv, asBool]) ?_
    refine RF.done (CF.condT (by simp [ev, upd]) ?_)
    refine CF.seq (CF.quiet (fun w' => RepX w0 w' os) (by kernel_rfl) (by kernel_rfl) (hX.drawn _) ?_)
    -- region 40
    refine QF.val (.pointer (some ⟨w0.heap.size + M, 6, none⟩)) rfl rfl (by decide) (fun w hw => (by simp [execOp, ev, upd, eqGuard, f0, f1, f2, f3, f4, f5, f6, f7, f8, f9, f10, f24, f25, f28, f30, f31, f32, f33, f36, f37, hlv, field44_6])) ?_
    refine QF.val (.pointer (some ⟨w0.heap.size + 3 + 3 * i, 0, none⟩)) rfl rfl (by decide) (fun w hw => (x_loadA 37 _ _ (⟨w0.heap.size + M, 6, none⟩) (.pointer (some ⟨w0.heap.size + 3 + 3 * i, 0, none⟩)) rfl Yba.underlying37 rfl (by simp [ev, upd, f0, f1, f2, f3, f4, f5, f6, f7, f8, f9, f10, f24, f25, f28, f30, f31, f32, f33, f36, f37, hlv]) (cell_at (RepX.block hw hoM) rfl))) ?_
    refine QF.move _ (.slice (some ⟨w0.heap.size + 1, 0, none⟩) n n) rfl rfl (by decide) rfl (by simp [ev, upd, f0, f1, f2, f3, f4, f5, f6, f7, f8, f9, f10, f24, f25, f28, f30, f31, f32, f33, f36, f37, hlv]) ?_
    refine QF.move _ (.int .i64 (i : Int)) rfl rfl (by decide) rfl (by simp [ev, upd, f0, f1, f2, f3, f4, f5, f6, f7, f8, f9, f10, f24, f25, f28, f30, f31, f32, f33, f36, f37, hlv]) ?_
    refine QF.val (.pointer (some ⟨w0.heap.size + 1, i, none⟩)) rfl rfl (by decide) (fun w hw => (by simp [execOp, ev, upd, eqGuard, f0, f1, f2, f3, f4, f5, f6, f7, f8, f9, f10, f24, f25, f28, f30, f31, f32, f33, f36, f37, hlv, index35 _ _ n n i hin])) ?_
    refine QF.val (.pointer (some ⟨w0.heap.size + 3 + 3 * i, 0, none⟩)) rfl rfl (by decide) (fun w hw => (x_loadA 37 _ _ (⟨w0.heap.size + 1, i, none⟩) (.pointer (some ⟨w0.heap.size + 3 + 3 * i, 0, none⟩)) rfl Yba.underlying37 rfl (by simp [ev, upd, f0, f1, f2, f3, f4, f5, f6, f7, f8, f9, f10, f24, f25, f28, f30, f31, f32, f33, f36, f37, hlv]) (cell_at (RepX.block hw hM.o1) (ptrArr_at _ n n i hin hin)))) ?_
    refine QF.val (.bool false) rfl rfl (by decide) (fun w hw => (by simp [execOp, ev, upd, eqGuard, f0, f1, f2, f3, f4, f5, f6, f7, f8, f9, f10, f24, f25, f28, f30, f31, f32, f33, f36, f37, hlv, neq37_same])) ?_
    refine QF.move _ (.bool false) rfl rfl (by decide) rfl (by simp [ev, upd, f0, f1, f2, f3, f4, f5, f6, f7, f8, f9, f10, f24, f25, f28, f30, f31, f32, f33, f36, f37, hlv]) ?_
    refine QF.valG (.pointer (some ⟨w0.heap.size + M, 7, none⟩)) (t := 175) rfl rfl (by decide) (by simp [ev, upd, f0, f1, f2, f3, f4, f5, f6, f7, f8, f9, f10, f24, f25, f28, f30, f31, f32, f33, f36, f37, hlv]) rfl (by decide) (fun w hw => (by simp [execOp, ev, upd, eqGuard, f0, f1, f2, f3, f4, f5, f6, f7, f8, f9, f10, f24, f25, f28, f30, f31, f32, f33, f36, f37, hlv, field44_7])) ?_
    refine QF.valG (.pointer none) (t := 175) rfl rfl (by decide) (by simp [ev, upd, f0, f1, f2, f3, f4, f5, f6, f7, f8, f9, f10, f24, f25, f28, f30, f31, f32, f33, f36, f37, hlv]) rfl (by decide) (fun w hw => (x_loadA 42 _ _ (⟨w0.heap.size + M, 7, none⟩) (.pointer none) rfl Yba.underlying42 rfl (by simp [ev, upd, f0, f1, f2, f3, f4, f5, f6, f7, f8, f9, f10, f24, f25, f28, f30, f31, f32, f33, f36, f37, hlv]) (cell_at (RepX.block hw hoM) rfl))) ?_
    refine QF.valG (.bool false) (t := 175) rfl rfl (by decide) (by simp [ev, upd, f0, f1, f2, f3, f4, f5, f6, f7, f8, f9, f10, f24, f25, f28, f30, f31, f32, f33, f36, f37, hlv]) rfl (by decide) (fun w hw => (by simp [execOp, ev, upd, eqGuard, f0, f1, f2, f3, f4, f5, f6, f7, f8, f9, f10, f24, f25, f28, f30, f31, f32, f33, f36, f37, hlv, nil42])) ?_
    refine QF.val (.bool false) rfl rfl (by decide) (fun w hw => (by simp [execOp, ev, upd, eqGuard, f0, f1, f2, f3, f4, f5, f6, f7, f8, f9, f10, f24, f25, f28, f30, f31, f32, f33, f36, f37, hlv, asBool])) ?_
    refine QF.nil fun w1 hX1 => ?_
    show CF _ _ _ _ _ _
    refine CF.condF (by simp [ev, upd]) (CF.skip ?_)
    refine tail44 (mo := mo) (sq := sq) (E := E) (W := W) (M := M) x ha hn hcell hz hsq hM hL (a := a) (c := c) (ds := ds) (kd := kd) (ht := ht) (rd := rd) (fm := fm) (va := va) (vn := vn) (vc := vc) (sa := sa) (sn := sn) (sc := sc) ?_ hX1
    repeat (refine St.upd ?_ (by decide) _)
    exact hS
  · cases hd
    · refine CF.seq (CF.seq (CF.region ?_))
      -- region 39
      refine RF.move _ (.bool false) rfl rfl (by decide) rfl (by simp [ev, upd, f0, f1, f2, f3, f4, f5, f6, f7, f8, f9, f10, f24, f25, f28, f30, f31, f32, f33, f36, f37]) ?_
      refine RF.move _ (.bool false) rfl rfl (by decide) rfl (by simp [ev, upd, f0, f1, f2, f3, f4, f5, f6, f7, f8, f9, f10, f24, f25, f28, f30, f31, f32, f33, f36, f37]) ?_
      refine RF.skipG (t := 164) rfl rfl (by decide) (by simp [ev, upd, f0, f1, f2, f3, f4, f5, f6, f7, f8, f9, f10, f24, f25, f28, f30, f31, f32, f33, f36, f37]) rfl (by decide) ?_
      refine RF.skipG (t := 164) rfl rfl (by decide) (by simp [ev, upd, f0, f1, f2, f3, f4, f5, f6, f7, f8, f9, f10, f24, f25, f28, f30, f31, f32, f33, f36, f37]) rfl (by decide) ?_
      refine RF.run (.bool false) rfl rfl (by decide) (by simp [execOp, ev, upd, eqGuard, f0, f1, f2, f3, f4, f5, f6, f7, f8, f9, f10, f24, f25, f28, f30, f31, f32, f33, f36, f37, asBool]) ?_
      refine RF.done (CF.condF (by simp [ev, upd]) ?_)
      refine CF.seq (CF.region ?_)
      -- region 42
      refine RF.run (.pointer (some ⟨w0.heap.size + M, 6, none⟩)) rfl rfl (by decide) (by simp [execOp, ev, upd, eqGuard, f0, f1, f2, f3, f4, f5, f6, f7, f8, f9, f10, f24, f25, f28, f30, f31, f32, f33, f36, f37, field44_6]) ?_
      refine RF.run (.pointer rl) rfl rfl (by decide) (x_loadA 37 _ _ (⟨w0.heap.size + M, 6, none⟩) (.pointer rl) rfl Yba.underlying37 rfl (by simp [ev, upd, f0, f1, f2, f3, f4, f5, f6, f7, f8, f9, f10, f24, f25, f28, f30, f31, f32, f33, f36, f37]) (cell_at (hX.block hoM) rfl)) ?_
      refine RF.move _ (.pointer rl) rfl rfl (by decide) rfl (by simp [ev, upd, f0, f1, f2, f3, f4, f5, f6, f7, f8, f9, f10, f24, f25, f28, f30, f31, f32, f33, f36, f37]) ?_
      refine RF.run (.bool false) rfl rfl (by decide) (by simp [execOp, ev, upd, eqGuard, f0, f1, f2, f3, f4, f5, f6, f7, f8, f9, f10, f24, f25, f28, f30, f31, f32, f33, f36, f37, neq37_self]) ?_
      refine RF.move _ (.bool false) rfl rfl (by decide) rfl (by simp [ev, upd, f0, f1, f2, f3, f4, f5, f6, f7, f8, f9, f10, f24, f25, f28, f30, f31, f32, f33, f36, f37]) ?_
      refine RF.runG (.pointer (some ⟨w0.heap.size + M, 7, none⟩)) (t := 184) rfl rfl (by decide) (by simp [ev, upd, f0, f1, f2, f3, f4, f5, f6, f7, f8, f9, f10, f24, f25, f28, f30, f31, f32, f33, f36, f37]) rfl (by decide) (by simp [execOp, ev, upd, eqGuard, f0, f1, f2, f3, f4, f5, f6, f7, f8, f9, f10, f24, f25, f28, f30, f31, f32, f33, f36, f37, field44_7]) ?_
      refine RF.runG (.pointer rg) (t := 184) rfl rfl (by decide) (by simp [ev, upd, f0, f1, f2, f3, f4, f5, f6, f7, f8, f9, f10, f24, f25, f28, f30, f31, f32, f33, f36, f37]) rfl (by decide) (x_loadA 42 _ _ (⟨w0.heap.size + M, 7, none⟩) (.pointer rg) rfl Yba.underlying42 rfl (by simp [ev, upd, f0, f1, f2, f3, f4, f5, f6, f7, f8, f9, f10, f24, f25, f28, f30, f31, f32, f33, f36, f37]) (cell_at (hX.block hoM) rfl)) ?_
      refine RF.runG (.pointer rg) (t := 184) rfl rfl (by decide) (by simp [ev, upd, f0, f1, f2, f3, f4, f5, f6, f7, f8, f9, f10, f24, f25, f28, f30, f31, f32, f33, f36, f37]) rfl (by decide) (by simp [execOp, ev, upd, f0, f1, f2, f3, f4, f5, f6, f7, f8, f9, f10, f24, f25, f28, f30, f31, f32, f33, f36, f37]) ?_
      refine RF.runG (.bool false) (t := 184) rfl rfl (by decide) (by simp [ev, upd, f0, f1, f2, f3, f4, f5, f6, f7, f8, f9, f10, f24, f25, f28, f30, f31, f32, f33, f36, f37]) rfl (by decide) (by simp [execOp, ev, upd, eqGuard, f0, f1, f2, f3, f4, f5, f6, f7, f8, f9, f10, f24, f25, f28, f30, f31, f32, f33, f36, f37, neq42_self]) ?_
      refine RF.run (.bool false) rfl rfl (by decide) (by simp [execOp, ev, upd, eqGuard, f0, f1, f2, f3, f4, f5, f6, f7, f8, f9, f10, f24, f25, f28, f30, f31, f32, f33, f36, f37, asBool]) ?_
      refine RF.done (CF.condF (by simp [ev, upd]) (CF.skip ?_))
      refine tail44 (mo := mo) (sq := sq) (E := E) (W := W) (M := M) x ha hn hcell hz hsq hM hL (a := a) (c := c) (ds := ds) (kd := kd) (ht := ht) (rd := rd) (fm := fm) (va := va) (vn := vn) (vc := vc) (sa := sa) (sn := sn) (sc := sc) ?_ hX
      repeat (refine St.upd ?_ (by decide) _)
      exact hS
    · have hlast : lastOf zs n sq = none := by rcases hno with h | h; (cases h); exact h
      have hlv : lastV (lastOf zs n sq) = -1 := by rw [hlast]; rfl
      refine CF.seq (CF.seq (CF.region ?_))
      -- region 39
      refine RF.move _ (.bool true) rfl rfl (by decide) rfl (by simp [ev, upd, f0, f1, f2, f3, f4, f5, f6, f7, f8, f9, f10, f24, f25, f28, f30, f31, f32, f33, f36, f37, hlv]) ?_
      refine RF.move _ (.bool true) rfl rfl (by decide) rfl (by simp [ev, upd, f0, f1, f2, f3, f4, f5, f6, f7, f8, f9, f10, f24, f25, f28, f30, f31, f32, f33, f36, f37, hlv]) ?_
      refine RF.runG (.int .i64 (-1)) (t := 164) rfl rfl (by decide) (by simp [ev, upd, f0, f1, f2, f3, f4, f5, f6, f7, f8, f9, f10, f24, f25, f28, f30, f31, f32, f33, f36, f37, hlv]) rfl (by decide) (by simp [execOp, ev, upd, f0, f1, f2, f3, f4, f5, f6, f7, f8, f9, f10, f24, f25, f28, f30, f31, f32, f33, f36, f37, hlv]) ?_
      refine RF.runG (.bool false) (t := 164) rfl rfl (by decide) (by simp [ev, upd, f0, f1, f2, f3, f4, f5, f6, f7, f8, f9, f10, f24, f25, f28, f30, f31, f32, f33, f36, f37, hlv]) rfl (by decide) (by simp [execOp, ev, upd, eqGuard, f0, f1, f2, f3, f4, f5, f6, f7, f8, f9, f10, f24, f25, f28, f30, f31, f32, f33, f36, f37, hlv, go_sem]) ?_
      refine RF.run (.bool false) rfl rfl (by decide) (by simp [execOp, ev, upd, eqGuard, f0, f1, f2, f3, f4, f5, f6, f7, f8, f9, f10, f24, f25, f28, f30, f31, f32, f33, f36, f37, hlv, asBool]) ?_
      refine RF.done (CF.condF (by simp [ev, upd]) ?_)
      refine CF.seq (CF.region ?_)
      -- region 42
      refine RF.run (.pointer (some ⟨w0.heap.size + M, 6, none⟩)) rfl rfl (by decide) (by simp [execOp, ev, upd, eqGuard, f0, f1, f2, f3, f4, f5, f6, f7, f8, f9, f10, f24, f25, f28, f30, f31, f32, f33, f36, f37, hlv, field44_6]) ?_
      refine RF.run (.pointer rl) rfl rfl (by decide) (x_loadA 37 _ _ (⟨w0.heap.size + M, 6, none⟩) (.pointer rl) rfl Yba.underlying37 rfl (by simp [ev, upd, f0, f1, f2, f3, f4, f5, f6, f7, f8, f9, f10, f24, f25, f28, f30, f31, f32, f33, f36, f37, hlv]) (cell_at (hX.block hoM) rfl)) ?_
      refine RF.move _ (.pointer rl) rfl rfl (by decide) rfl (by simp [ev, upd, f0, f1, f2, f3, f4, f5, f6, f7, f8, f9, f10, f24, f25, f28, f30, f31, f32, f33, f36, f37, hlv]) ?_
      refine RF.run (.bool false) rfl rfl (by decide) (by simp [execOp, ev, upd, eqGuard, f0, f1, f2, f3, f4, f5, f6, f7, f8, f9, f10, f24, f25, f28, f30, f31, f32, f33, f36, f37, hlv, neq37_self]) ?_
      refine RF.move _ (.bool false) rfl rfl (by decide) rfl (by simp [ev, upd, f0, f1, f2, f3, f4, f5, f6, f7, f8, f9, f10, f24, f25, f28, f30, f31, f32, f33, f36, f37, hlv]) ?_
      refine RF.runG (.pointer (some ⟨w0.heap.size + M, 7, none⟩)) (t := 184) rfl rfl (by decide) (by simp [ev, upd, f0, f1, f2, f3, f4, f5, f6, f7, f8, f9, f10, f24, f25, f28, f30, f31, f32, f33, f36, f37, hlv]) rfl (by decide) (by simp [execOp, ev, upd, eqGuard, f0, f1, f2, f3, f4, f5, f6, f7, f8, f9, f10, f24, f25, f28, f30, f31, f32, f33, f36, f37, hlv, field44_7]) ?_
      refine RF.runG (.pointer rg) (t := 184) rfl rfl (by decide) (by simp [ev, upd, f0, f1, f2, f3, f4, f5, f6, f7, f8, f9, f10, f24, f25, f28, f30, f31, f32, f33, f36, f37, hlv]) rfl (by decide) (x_loadA 42 _ _ (⟨w0.heap.size + M, 7, none⟩) (.pointer rg) rfl Yba.underlying42 rfl (by simp [ev, upd, f0, f1, f2, f3, f4, f5, f6, f7, f8, f9, f10, f24, f25, f28, f30, f31, f32, f33, f36, f37, hlv]) (cell_at (hX.block hoM) rfl)) ?_
      refine RF.runG (.pointer rg) (t := 184) rfl rfl (by decide) (by simp [ev, upd, f0, f1, f2, f3, f4, f5, f6, f7, f8, f9, f10, f24, f25, f28, f30, f31, f32, f33, f36, f37, hlv]) rfl (by decide) (by simp [execOp, ev, upd, f0, f1, f2, f3, f4, f5, f6, f7, f8, f9, f10, f24, f25, f28, f30, f31, f32, f33, f36, f37, hlv]) ?_
      refine RF.runG (.bool false) (t := 184) rfl rfl (by decide) (by simp [ev, upd, f0, f1, f2, f3, f4, f5, f6, f7, f8, f9, f10, f24, f25, f28, f30, f31, f32, f33, f36, f37, hlv]) rfl (by decide) (by simp [execOp, ev, upd, eqGuard, f0, f1, f2, f3, f4, f5, f6, f7, f8, f9, f10, f24, f25, f28, f30, f31, f32, f33, f36, f37, hlv, neq42_self]) ?_
      refine RF.run (.bool false) rfl rfl (by decide) (by simp [execOp, ev, upd, eqGuard, f0, f1, f2, f3, f4, f5, f6, f7, f8, f9, f10, f24, f25, f28, f30, f31, f32, f33, f36, f37, hlv, asBool]) ?_
      refine RF.done (CF.condF (by simp [ev, upd]) (CF.skip ?_))
      refine tail44 (mo := mo) (sq := sq) (E := E) (W := W) (M := M) x ha hn hcell hz hsq hM hL (a := a) (c := c) (ds := ds) (kd := kd) (ht := ht) (rd := rd) (fm := fm) (va := va) (vn := vn) (vc := vc) (sa := sa) (sn := sn) (sc := sc) ?_ hX
      repeat (refine St.upd ?_ (by decide) _)
      exact hS

set_option maxHeartbeats 1000000 in
theorem tail31 {w0 w : World} {zs : List Int} {f : Nat → Value} {mo : Obj} {sq E W M : Nat} {lk dp : Option Addr} {os : List Obj} (x : Addr) (ha : 0 < n → a = some x) (hn : n ≤ 1048576)
    (hcell : ∀ {w' : World}, RepX w0 w' os → ∀ i, i < n → w'.cell? (x.add i) = some (.int .u8 (zs.getD i 0))) (hz : ∀ i, i < n → 0 ≤ zs.getD i 0) (hsq : sq < 4)
    (hM : Mem mo w0.heap.size n zs sq E W hl hd lr lk dp os) (hL : Locks mo n (locksOf w0.heap.size zs n))
    (hS : St w0.heap.size E W M lk dp (cnt (locksOf w0.heap.size zs n)) (lastV (lastOf zs n sq)) f a n c hd ds hl lr kd ht rd fm va vn vc sa sn sc) (hX : RepX w0 w os)
    {rl rg : Option Addr} (hoM : os[M]? = some (.cells (rs kd ht rd fm va vn vc rl rg sa sn sc) 44))
    (hres : (hd = true ∧ ∃ i, lastOf zs n sq = some i ∧ rl = some ⟨w0.heap.size + 3 + 3 * i, 0, none⟩ ∧ rg = none) ∨ ((hd = false ∨ lastOf zs n sq = none) ∧ rl = lk ∧ rg = dp))
    (hcv : ∃ s : ByteArray, ∀ w', RepX w0 w' os → (convert 22 9 (.slice va vn vc)).run Yba.prog w' = .ok (.string s) w') (hcs : ∃ s : ByteArray, ∀ w', RepX w0 w' os → (convert 22 9 (.slice sa sn sc)).run Yba.prog w' = .ok (.string s) w') :
    CF Yba.prog 287 (tailFrom 31 (Yba.f4.body.getD .skip)) (endF Yba.prog Yba.f4 fun e w' => e = .returned (.bool true) ∧ Below w0.heap.size w0 w') f w := by
  obtain ⟨⟨f0, f1, f2, f3, f4, f5, f6, f7, f8, f9, f10⟩, f24, f25, f28, f30, f31, f32, f33, f36, f37⟩ := id hS
  obtain ⟨s1, hcv⟩ := hcv
  obtain ⟨s2, hcs⟩ := hcs
  refine CF.seq (CF.seq (CF.region ?_))
  -- region 31
  refine RF.run (.pointer (some ⟨w0.heap.size + M, 0, none⟩)) rfl rfl (by decide) (by simp [execOp, ev, upd, eqGuard, f0, f1, f2, f3, f4, f5, f6, f7, f8, f9, f10, f24, f25, f28, f30, f31, f32, f33, f36, f37, field44_0]) ?_
  refine RF.run (.int .u8 kd) rfl rfl (by decide) (x_loadA 39 _ _ (⟨w0.heap.size + M, 0, none⟩) (.int .u8 kd) rfl Yba.underlying39 rfl (by simp [ev, upd, f0, f1, f2, f3, f4, f5, f6, f7, f8, f9, f10, f24, f25, f28, f30, f31, f32, f33, f36, f37]) (cell_at (hX.block hoM) rfl)) ?_
  refine RF.move _ (.int .u8 kd) rfl rfl (by decide) rfl (by simp [ev, upd, f0, f1, f2, f3, f4, f5, f6, f7, f8, f9, f10, f24, f25, f28, f30, f31, f32, f33, f36, f37]) ?_
  refine RF.run (.bool false) rfl rfl (by decide) (by simp [execOp, ev, upd, eqGuard, f0, f1, f2, f3, f4, f5, f6, f7, f8, f9, f10, f24, f25, f28, f30, f31, f32, f33, f36, f37, go_sem]) ?_
  refine RF.move _ (.bool false) rfl rfl (by decide) rfl (by simp [ev, upd, f0, f1, f2, f3, f4, f5, f6, f7, f8, f9, f10, f24, f25, f28, f30, f31, f32, f33, f36, f37]) ?_
  refine RF.runG (.pointer (some ⟨w0.heap.size + M, 1, none⟩)) (t := 116) rfl rfl (by decide) (by simp [ev, upd, f0, f1, f2, f3, f4, f5, f6, f7, f8, f9, f10, f24, f25, f28, f30, f31, f32, f33, f36, f37]) rfl (by decide) (by simp [execOp, ev, upd, eqGuard, f0, f1, f2, f3, f4, f5, f6, f7, f8, f9, f10, f24, f25, f28, f30, f31, f32, f33, f36, f37, field44_1]) ?_
  refine RF.runG (.int .u64 ht) (t := 116) rfl rfl (by decide) (by simp [ev, upd, f0, f1, f2, f3, f4, f5, f6, f7, f8, f9, f10, f24, f25, f28, f30, f31, f32, f33, f36, f37]) rfl (by decide) (x_loadA 40 _ _ (⟨w0.heap.size + M, 1, none⟩) (.int .u64 ht) rfl Yba.underlying40 rfl (by simp [ev, upd, f0, f1, f2, f3, f4, f5, f6, f7, f8, f9, f10, f24, f25, f28, f30, f31, f32, f33, f36, f37]) (cell_at (hX.block hoM) rfl)) ?_
  refine RF.runG (.int .u64 ht) (t := 116) rfl rfl (by decide) (by simp [ev, upd, f0, f1, f2, f3, f4, f5, f6, f7, f8, f9, f10, f24, f25, f28, f30, f31, f32, f33, f36, f37]) rfl (by decide) (by simp [execOp, ev, upd, f0, f1, f2, f3, f4, f5, f6, f7, f8, f9, f10, f24, f25, f28, f30, f31, f32, f33, f36, f37]) ?_
  refine RF.runG (.bool false) (t := 116) rfl rfl (by decide) (by simp [ev, upd, f0, f1, f2, f3, f4, f5, f6, f7, f8, f9, f10, f24, f25, f28, f30, f31, f32, f33, f36, f37]) rfl (by decide) (by simp [execOp, ev, upd, eqGuard, f0, f1, f2, f3, f4, f5, f6, f7, f8, f9, f10, f24, f25, f28, f30, f31, f32, f33, f36, f37, go_sem]) ?_
  refine RF.run (.bool false) rfl rfl (by decide) (by simp [execOp, ev, upd, eqGuard, f0, f1, f2, f3, f4, f5, f6, f7, f8, f9, f10, f24, f25, f28, f30, f31, f32, f33, f36, f37, asBool]) ?_
  refine RF.move _ (.bool false) rfl rfl (by decide) rfl (by simp [ev, upd, f0, f1, f2, f3, f4, f5, f6, f7, f8, f9, f10, f24, f25, f28, f30, f31, f32, f33, f36, f37]) ?_
  refine RF.runG (.pointer (some ⟨w0.heap.size + M, 2, none⟩)) (t := 122) rfl rfl (by decide) (by simp [ev, upd, f0, f1, f2, f3, f4, f5, f6, f7, f8, f9, f10, f24, f25, f28, f30, f31, f32, f33, f36, f37]) rfl (by decide) (by simp [execOp, ev, upd, eqGuard, f0, f1, f2, f3, f4, f5, f6, f7, f8, f9, f10, f24, f25, f28, f30, f31, f32, f33, f36, f37, field44_2]) ?_
  refine RF.runG (.int .u64 rd) (t := 122) rfl rfl (by decide) (by simp [ev, upd, f0, f1, f2, f3, f4, f5, f6, f7, f8, f9, f10, f24, f25, f28, f30, f31, f32, f33, f36, f37]) rfl (by decide) (x_loadA 38 _ _ (⟨w0.heap.size + M, 2, none⟩) (.int .u64 rd) rfl Yba.underlying38 rfl (by simp [ev, upd, f0, f1, f2, f3, f4, f5, f6, f7, f8, f9, f10, f24, f25, f28, f30, f31, f32, f33, f36, f37]) (cell_at (hX.block hoM) rfl)) ?_
  refine RF.runG (.int .u64 rd) (t := 122) rfl rfl (by decide) (by simp [ev, upd, f0, f1, f2, f3, f4, f5, f6, f7, f8, f9, f10, f24, f25, f28, f30, f31, f32, f33, f36, f37]) rfl (by decide) (by simp [execOp, ev, upd, f0, f1, f2, f3, f4, f5, f6, f7, f8, f9, f10, f24, f25, f28, f30, f31, f32, f33, f36, f37]) ?_
  refine RF.runG (.bool false) (t := 122) rfl rfl (by decide) (by simp [ev, upd, f0, f1, f2, f3, f4, f5, f6, f7, f8, f9, f10, f24, f25, f28, f30, f31, f32, f33, f36, f37]) rfl (by decide) (by simp [execOp, ev, upd, eqGuard, f0, f1, f2, f3, f4, f5, f6, f7, f8, f9, f10, f24, f25, f28, f30, f31, f32, f33, f36, f37, go_sem]) ?_
  refine RF.run (.bool false) rfl rfl (by decide) (by simp [execOp, ev, upd, eqGuard, f0, f1, f2, f3, f4, f5, f6, f7, f8, f9, f10, f24, f25, f28, f30, f31, f32, f33, f36, f37, asBool]) ?_
  refine RF.move _ (.bool false) rfl rfl (by decide) rfl (by simp [ev, upd, f0, f1, f2, f3, f4, f5, f6, f7, f8, f9, f10, f24, f25, f28, f30, f31, f32, f33, f36, f37]) ?_
  refine RF.runG (.pointer (some ⟨w0.heap.size + M, 3, none⟩)) (t := 128) rfl rfl (by decide) (by simp [ev, upd, f0, f1, f2, f3, f4, f5, f6, f7, f8, f9, f10, f24, f25, f28, f30, f31, f32, f33, f36, f37]) rfl (by decide) (by simp [execOp, ev, upd, eqGuard, f0, f1, f2, f3, f4, f5, f6, f7, f8, f9, f10, f24, f25, f28, f30, f31, f32, f33, f36, f37, field44_3]) ?_
  refine RF.runG (.int .i64 fm) (t := 128) rfl rfl (by decide) (by simp [ev, upd, f0, f1, f2, f3, f4, f5, f6, f7, f8, f9, f10, f24, f25, f28, f30, f31, f32, f33, f36, f37]) rfl (by decide) (x_loadA 3 _ _ (⟨w0.heap.size + M, 3, none⟩) (.int .i64 fm) rfl Yba.underlying3 rfl (by simp [ev, upd, f0, f1, f2, f3, f4, f5, f6, f7, f8, f9, f10, f24, f25, f28, f30, f31, f32, f33, f36, f37]) (cell_at (hX.block hoM) rfl)) ?_
  refine RF.runG (.int .i64 fm) (t := 128) rfl rfl (by decide) (by simp [ev, upd, f0, f1, f2, f3, f4, f5, f6, f7, f8, f9, f10, f24, f25, f28, f30, f31, f32, f33, f36, f37]) rfl (by decide) (by simp [execOp, ev, upd, f0, f1, f2, f3, f4, f5, f6, f7, f8, f9, f10, f24, f25, f28, f30, f31, f32, f33, f36, f37]) ?_
  refine RF.runG (.bool false) (t := 128) rfl rfl (by decide) (by simp [ev, upd, f0, f1, f2, f3, f4, f5, f6, f7, f8, f9, f10, f24, f25, f28, f30, f31, f32, f33, f36, f37]) rfl (by decide) (by simp [execOp, ev, upd, eqGuard, f0, f1, f2, f3, f4, f5, f6, f7, f8, f9, f10, f24, f25, f28, f30, f31, f32, f33, f36, f37, go_sem]) ?_
  refine RF.run (.bool false) rfl rfl (by decide) (by simp [execOp, ev, upd, eqGuard, f0, f1, f2, f3, f4, f5, f6, f7, f8, f9, f10, f24, f25, f28, f30, f31, f32, f33, f36, f37, asBool]) ?_
  refine RF.done (CF.condF (by simp [ev, upd]) (CF.skip ?_))
  refine CF.seq (CF.seq (CF.region ?_))
  -- region 33
  refine RF.run (.pointer (some ⟨w0.heap.size + M, 4, none⟩)) rfl rfl (by decide) (by simp [execOp, ev, upd, eqGuard, f0, f1, f2, f3, f4, f5, f6, f7, f8, f9, f10, f24, f25, f28, f30, f31, f32, f33, f36, f37, field44_4]) ?_
  refine RF.run (.slice va vn vc) rfl rfl (by decide) (x_loadA 22 _ _ (⟨w0.heap.size + M, 4, none⟩) (.slice va vn vc) rfl Yba.underlying22 rfl (by simp [ev, upd, f0, f1, f2, f3, f4, f5, f6, f7, f8, f9, f10, f24, f25, f28, f30, f31, f32, f33, f36, f37]) (cell_at (hX.block hoM) rfl)) ?_
  refine RF.move _ (.slice va vn vc) rfl rfl (by decide) rfl (by simp [ev, upd, f0, f1, f2, f3, f4, f5, f6, f7, f8, f9, f10, f24, f25, f28, f30, f31, f32, f33, f36, f37]) ?_
  refine RF.call 10 #[.slice va vn vc, .slice va vn vc] rfl rfl (by decide) (x_call 10 _ _ _ _ rfl Yba.func10 (by kernel_rfl) rfl (by simp [ev, upd, f0, f1, f2, f3, f4, f5, f6, f7, f8, f9, f10, f24, f25, f28, f30, f31, f32, f33, f36, f37]) rfl) (equal_self _ _ _ _ _ (hcv _ hX)) (fun v w9 hv => ?_)
  obtain ⟨rfl, rfl⟩ := hv
  refine RF.run (.bool false) rfl rfl (by decide) (by simp [execOp, ev, upd, eqGuard, f0, f1, f2, f3, f4, f5, f6, f7, f8, f9, f10, f24, f25, f28, f30, f31, f32, f33, f36, f37, go_sem]) ?_
  refine RF.move _ (.bool false) rfl rfl (by decide) rfl (by simp [ev, upd, f0, f1, f2, f3, f4, f5, f6, f7, f8, f9, f10, f24, f25, f28, f30, f31, f32, f33, f36, f37]) ?_
  refine RF.runG (.pointer (some ⟨w0.heap.size + M, 4, none⟩)) (t := 139) rfl rfl (by decide) (by simp [ev, upd, f0, f1, f2, f3, f4, f5, f6, f7, f8, f9, f10, f24, f25, f28, f30, f31, f32, f33, f36, f37]) rfl (by decide) (by simp [execOp, ev, upd, eqGuard, f0, f1, f2, f3, f4, f5, f6, f7, f8, f9, f10, f24, f25, f28, f30, f31, f32, f33, f36, f37, field44_4]) ?_
  refine RF.runG (.slice va vn vc) (t := 139) rfl rfl (by decide) (by simp [ev, upd, f0, f1, f2, f3, f4, f5, f6, f7, f8, f9, f10, f24, f25, f28, f30, f31, f32, f33, f36, f37]) rfl (by decide) (x_loadA 22 _ _ (⟨w0.heap.size + M, 4, none⟩) (.slice va vn vc) rfl Yba.underlying22 rfl (by simp [ev, upd, f0, f1, f2, f3, f4, f5, f6, f7, f8, f9, f10, f24, f25, f28, f30, f31, f32, f33, f36, f37]) (cell_at (hX.block hoM) rfl)) ?_
  refine RF.runG (.bool va.isNone) (t := 139) rfl rfl (by decide) (by simp [ev, upd, f0, f1, f2, f3, f4, f5, f6, f7, f8, f9, f10, f24, f25, f28, f30, f31, f32, f33, f36, f37]) rfl (by decide) (by simp [execOp, ev, upd, eqGuard, f0, f1, f2, f3, f4, f5, f6, f7, f8, f9, f10, f24, f25, f28, f30, f31, f32, f33, f36, f37, eqlnil22]) ?_
  refine RF.runG (.slice va vn vc) (t := 139) rfl rfl (by decide) (by simp [ev, upd, f0, f1, f2, f3, f4, f5, f6, f7, f8, f9, f10, f24, f25, f28, f30, f31, f32, f33, f36, f37]) rfl (by decide) (by simp [execOp, ev, upd, f0, f1, f2, f3, f4, f5, f6, f7, f8, f9, f10, f24, f25, f28, f30, f31, f32, f33, f36, f37]) ?_
  refine RF.runG (.bool va.isNone) (t := 139) rfl rfl (by decide) (by simp [ev, upd, f0, f1, f2, f3, f4, f5, f6, f7, f8, f9, f10, f24, f25, f28, f30, f31, f32, f33, f36, f37]) rfl (by decide) (by simp [execOp, ev, upd, eqGuard, f0, f1, f2, f3, f4, f5, f6, f7, f8, f9, f10, f24, f25, f28, f30, f31, f32, f33, f36, f37, eqlnil22]) ?_
  refine RF.runG (.bool false) (t := 139) rfl rfl (by decide) (by simp [ev, upd, f0, f1, f2, f3, f4, f5, f6, f7, f8, f9, f10, f24, f25, f28, f30, f31, f32, f33, f36, f37]) rfl (by decide) (by simp [execOp, ev, upd, eqGuard, f0, f1, f2, f3, f4, f5, f6, f7, f8, f9, f10, f24, f25, f28, f30, f31, f32, f33, f36, f37, go_sem, Yba.underlying4]) ?_
  refine RF.run (.bool false) rfl rfl (by decide) (by simp [execOp, ev, upd, eqGuard, f0, f1, f2, f3, f4, f5, f6, f7, f8, f9, f10, f24, f25, f28, f30, f31, f32, f33, f36, f37, asBool]) ?_
  refine RF.done (CF.condF (by simp [ev, upd]) (CF.skip ?_))
  refine CF.seq (CF.seq (CF.region ?_))
  -- region 35
  refine RF.run (.pointer (some ⟨w0.heap.size + M, 8, none⟩)) rfl rfl (by decide) (by simp [execOp, ev, upd, eqGuard, f0, f1, f2, f3, f4, f5, f6, f7, f8, f9, f10, f24, f25, f28, f30, f31, f32, f33, f36, f37, field44_8]) ?_
  refine RF.run (.slice sa sn sc) rfl rfl (by decide) (x_loadA 22 _ _ (⟨w0.heap.size + M, 8, none⟩) (.slice sa sn sc) rfl Yba.underlying22 rfl (by simp [ev, upd, f0, f1, f2, f3, f4, f5, f6, f7, f8, f9, f10, f24, f25, f28, f30, f31, f32, f33, f36, f37]) (cell_at (hX.block hoM) rfl)) ?_
  refine RF.move _ (.slice sa sn sc) rfl rfl (by decide) rfl (by simp [ev, upd, f0, f1, f2, f3, f4, f5, f6, f7, f8, f9, f10, f24, f25, f28, f30, f31, f32, f33, f36, f37]) ?_
  refine RF.call 10 #[.slice sa sn sc, .slice sa sn sc] rfl rfl (by decide) (x_call 10 _ _ _ _ rfl Yba.func10 (by kernel_rfl) rfl (by simp [ev, upd, f0, f1, f2, f3, f4, f5, f6, f7, f8, f9, f10, f24, f25, f28, f30, f31, f32, f33, f36, f37]) rfl) (equal_self _ _ _ _ _ (hcs _ hX)) (fun v w9 hv => ?_)
  obtain ⟨rfl, rfl⟩ := hv
  refine RF.run (.bool false) rfl rfl (by decide) (by simp [execOp, ev, upd, eqGuard, f0, f1, f2, f3, f4, f5, f6, f7, f8, f9, f10, f24, f25, f28, f30, f31, f32, f33, f36, f37, go_sem]) ?_
  refine RF.move _ (.bool false) rfl rfl (by decide) rfl (by simp [ev, upd, f0, f1, f2, f3, f4, f5, f6, f7, f8, f9, f10, f24, f25, f28, f30, f31, f32, f33, f36, f37]) ?_
  refine RF.runG (.pointer (some ⟨w0.heap.size + M, 8, none⟩)) (t := 152) rfl rfl (by decide) (by simp [ev, upd, f0, f1, f2, f3, f4, f5, f6, f7, f8, f9, f10, f24, f25, f28, f30, f31, f32, f33, f36, f37]) rfl (by decide) (by simp [execOp, ev, upd, eqGuard, f0, f1, f2, f3, f4, f5, f6, f7, f8, f9, f10, f24, f25, f28, f30, f31, f32, f33, f36, f37, field44_8]) ?_
  refine RF.runG (.slice sa sn sc) (t := 152) rfl rfl (by decide) (by simp [ev, upd, f0, f1, f2, f3, f4, f5, f6, f7, f8, f9, f10, f24, f25, f28, f30, f31, f32, f33, f36, f37]) rfl (by decide) (x_loadA 22 _ _ (⟨w0.heap.size + M, 8, none⟩) (.slice sa sn sc) rfl Yba.underlying22 rfl (by simp [ev, upd, f0, f1, f2, f3, f4, f5, f6, f7, f8, f9, f10, f24, f25, f28, f30, f31, f32, f33, f36, f37]) (cell_at (hX.block hoM) rfl)) ?_
  refine RF.runG (.bool sa.isNone) (t := 152) rfl rfl (by decide) (by simp [ev, upd, f0, f1, f2, f3, f4, f5, f6, f7, f8, f9, f10, f24, f25, f28, f30, f31, f32, f33, f36, f37]) rfl (by decide) (by simp [execOp, ev, upd, eqGuard, f0, f1, f2, f3, f4, f5, f6, f7, f8, f9, f10, f24, f25, f28, f30, f31, f32, f33, f36, f37, eqlnil22]) ?_
  refine RF.runG (.slice sa sn sc) (t := 152) rfl rfl (by decide) (by simp [ev, upd, f0, f1, f2, f3, f4, f5, f6, f7, f8, f9, f10, f24, f25, f28, f30, f31, f32, f33, f36, f37]) rfl (by decide) (by simp [execOp, ev, upd, f0, f1, f2, f3, f4, f5, f6, f7, f8, f9, f10, f24, f25, f28, f30, f31, f32, f33, f36, f37]) ?_
  refine RF.runG (.bool sa.isNone) (t := 152) rfl rfl (by decide) (by simp [ev, upd, f0, f1, f2, f3, f4, f5, f6, f7, f8, f9, f10, f24, f25, f28, f30, f31, f32, f33, f36, f37]) rfl (by decide) (by simp [execOp, ev, upd, eqGuard, f0, f1, f2, f3, f4, f5, f6, f7, f8, f9, f10, f24, f25, f28, f30, f31, f32, f33, f36, f37, eqlnil22]) ?_
  refine RF.runG (.bool false) (t := 152) rfl rfl (by decide) (by simp [ev, upd, f0, f1, f2, f3, f4, f5, f6, f7, f8, f9, f10, f24, f25, f28, f30, f31, f32, f33, f36, f37]) rfl (by decide) (by simp [execOp, ev, upd, eqGuard, f0, f1, f2, f3, f4, f5, f6, f7, f8, f9, f10, f24, f25, f28, f30, f31, f32, f33, f36, f37, go_sem, Yba.underlying4]) ?_
  refine RF.run (.bool false) rfl rfl (by decide) (by simp [execOp, ev, upd, eqGuard, f0, f1, f2, f3, f4, f5, f6, f7, f8, f9, f10, f24, f25, f28, f30, f31, f32, f33, f36, f37, asBool]) ?_
  refine RF.done (CF.condF (by simp [ev, upd]) (CF.skip ?_))
  refine CF.seq (CF.seq (CF.region ?_))
  -- region 37
  refine RF.run (.pointer (some ⟨w0.heap.size + M, 5, none⟩)) rfl rfl (by decide) (by simp [execOp, ev, upd, eqGuard, f0, f1, f2, f3, f4, f5, f6, f7, f8, f9, f10, f24, f25, f28, f30, f31, f32, f33, f36, f37, field44_5]) ?_
  refine RF.run (.slice none 0 0) rfl rfl (by decide) (x_loadA 41 _ _ (⟨w0.heap.size + M, 5, none⟩) (.slice none 0 0) rfl Yba.underlying41 rfl (by simp [ev, upd, f0, f1, f2, f3, f4, f5, f6, f7, f8, f9, f10, f24, f25, f28, f30, f31, f32, f33, f36, f37]) (cell_at (hX.block hoM) rfl)) ?_
  refine RF.run (.bool false) rfl rfl (by decide) (by simp [execOp, ev, upd, eqGuard, f0, f1, f2, f3, f4, f5, f6, f7, f8, f9, f10, f24, f25, f28, f30, f31, f32, f33, f36, f37, neqnil41]) ?_
  refine RF.done (CF.condF (by simp [ev, upd]) (CF.skip ?_))
  refine tail39 (mo := mo) (sq := sq) (E := E) (W := W) (M := M) x ha hn hcell hz hsq hM hL (a := a) (c := c) (ds := ds) (kd := kd) (ht := ht) (rd := rd) (fm := fm) (va := va) (vn := vn) (vc := vc) (sa := sa) (sn := sn) (sc := sc) ?_ hX hoM hres
  repeat (refine St.upd ?_ (by decide) _)
  exact hS

end
end Go.Proofs.Ybulkebfq

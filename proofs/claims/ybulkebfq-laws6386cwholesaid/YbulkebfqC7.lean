/-
  LawS6386CWhole: from its beginning to withLock's call; the walk whole.
-/
import Derived.Test.YbulkebfqC6
namespace Go.Proofs.Ybulkebfq
open Go.RowKit
set_option linter.unusedSimpArgs false
set_option linter.unusedVariables false

theorem build44 (w : World) (kd ht rd fm : Int) (va : Option Addr) (vn vc : Nat) (lk dp : Option Addr) (sa : Option Addr) (sn sc : Nat) :
    (Instr.build 44 #[(0, .int .u8 kd), (1, .int .u64 ht), (2, .int .u64 rd), (3, .int .i64 fm), (4, .slice va vn vc), (6, .pointer lk), (7, .pointer dp), (8, .slice sa sn sc)]).run Yba.prog w = .ok (.agg (rs kd ht rd fm va vn vc lk dp sa sn sc)) w := by kernel_rfl
theorem rs_info (kd ht rd fm : Int) (va : Option Addr) (vn vc : Nat) (lk dp : Option Addr) (sa : Option Addr) (sn sc : Nat) : (Yba.prog.info? 44).map (·.size) = some (rs kd ht rd fm va vn vc lk dp sa sn sc).size := size44
theorem rs_one (kd ht rd fm : Int) (va : Option Addr) (vn vc : Nat) (lk dp : Option Addr) (sa : Option Addr) (sn sc : Nat) : (rs kd ht rd fm va vn vc lk dp sa sn sc).all (·.oneCell') = true := by kernel_rfl

section
variable {a : Option Addr} {n c : Nat} {hd : Bool} {ds : Int} {hl : Bool} {lr kd ht rd fm : Int} {va : Option Addr} {vn vc : Nat} {sa : Option Addr} {sn sc : Nat}

theorem tail30 {w0 w : World} {zs : List Int} {f : Nat → Value} {mo : Obj} (x : Addr) (ha : 0 < n → a = some x) (hn : n ≤ 1048576)
    (hcell : ∀ {w' : World} {os' : List Obj}, Rep w0 w' os' → ∀ i, i < n → w'.cell? (x.add i) = some (.int .u8 (zs.getD i 0))) (hz : ∀ i, i < n → 0 ≤ zs.getD i 0) (hds : 0 ≤ ds) {sq : Nat} (hsq : sq < 4) (hdq : ds % 4 = (sq : Int))
    (hcv : ∃ s : ByteArray, ∀ w' os', Rep w0 w' os' → (convert 22 9 (.slice va vn vc)).run Yba.prog w' = .ok (.string s) w') (hcs : ∃ s : ByteArray, ∀ w' os', Rep w0 w' os' → (convert 22 9 (.slice sa sn sc)).run Yba.prog w' = .ok (.string s) w')
    (hL : Locks mo n (locksOf w0.heap.size zs n)) (hP : Par f a n c hd ds hl lr kd ht rd fm va vn vc sa sn sc)
    (f24 : f 24 = .slice (some ⟨w0.heap.size + 1, 0, none⟩) n n) (f25 : f 25 = .pointer (some ⟨w0.heap.size + 2, 0, none⟩)) {E W M : Nat} {lk dp : Option Addr} {os : List Obj} (hM : Mem mo w0.heap.size n zs sq E W hl hd lr lk dp os) (f28 : f 28 = .int .i64 (cnt (locksOf w0.heap.size zs n)))
    (f30 : f 30 = .pointer (some ⟨w0.heap.size + E, 0, none⟩)) (f31 : f 31 = .pointer lk) (f32 : f 32 = .pointer (some ⟨w0.heap.size + W, 0, none⟩)) (f33 : f 33 = .pointer dp) (f36 : f 36 = .pointer (some ⟨w0.heap.size + M, 0, none⟩)) (hX : RepX w0 w os)
    {rl rg : Option Addr} (hoM : os[M]? = some (.cells (rs kd ht rd fm va vn vc rl rg sa sn sc) 44))
    (hres : (hd = true ∧ ∃ i, lastOf zs n sq = some i ∧ rl = some ⟨w0.heap.size + 3 + 3 * i, 0, none⟩ ∧ rg = none) ∨ ((hd = false ∨ lastOf zs n sq = none) ∧ rl = lk ∧ rg = dp)) :
    CF Yba.prog 287 (tailFrom 30 (Yba.f4.body.getD .skip)) (endF Yba.prog Yba.f4 fun e w' => e = .returned (.bool true) ∧ Below w0.heap.size w0 w') f w := by
  obtain ⟨f0, f1, f2, f3, f4, f5, f6, f7, f8, f9, f10⟩ := id hP
  have hdm : ds.tmod 4 = (sq : Int) := by rw [Int.tmod_eq_emod_of_nonneg hds]; exact hdq
  refine CF.seq (CF.region ?_)
  -- region 30
  refine RF.move _ (.int .u8 ds) rfl rfl (by decide) rfl (by simp [ev, upd, f0, f1, f2, f3, f4, f5, f6, f7, f8, f9, f10, f24, f25, f28, f30, f31, f32, f33, f36]) ?_
  refine RF.run (.int .u8 (sq : Nat)) rfl rfl (by decide) (by simp [execOp, ev, upd, eqGuard, f0, f1, f2, f3, f4, f5, f6, f7, f8, f9, f10, f24, f25, f28, f30, f31, f32, f33, f36, go_sem, hdm]) ?_
  refine RF.run (.pointer (some ⟨w0.heap.size + 2, sq, none⟩)) rfl rfl (by decide) (by simp [execOp, ev, upd, eqGuard, f0, f1, f2, f3, f4, f5, f6, f7, f8, f9, f10, f24, f25, f28, f30, f31, f32, f33, f36, index36 _ _ _ _ hsq]) ?_
  refine RF.run (.int .i64 (lastV (lastOf zs n sq))) rfl rfl (by decide) (x_loadA 3 _ _ (⟨w0.heap.size + 2, sq, none⟩) (.int .i64 (lastV (lastOf zs n sq))) rfl Yba.underlying3 rfl (by simp [ev, upd, f0, f1, f2, f3, f4, f5, f6, f7, f8, f9, f10, f24, f25, f28, f30, f31, f32, f33, f36]) (cell_at (hX.block hM.o2) (lastArr_at _ _ _ hsq))) ?_
  refine RF.assign _ (.int .i64 (lastV (lastOf zs n sq))) rfl rfl (by decide) rfl (by simp [ev, upd, f0, f1, f2, f3, f4, f5, f6, f7, f8, f9, f10, f24, f25, f28, f30, f31, f32, f33, f36]) ?_
  refine RF.done ?_
  refine tail31 (mo := mo) (sq := sq) (E := E) (W := W) (M := M) x ha hn (fun h i hi => by obtain ⟨l, h⟩ := h; exact hcell h i hi) hz hsq hM hL (a := a) (c := c) (ds := ds) (kd := kd) (ht := ht) (rd := rd) (fm := fm) (va := va) (vn := vn) (vc := vc) (sa := sa) (sn := sn) (sc := sc) ⟨?_, by simp [upd, f24], by simp [upd, f25], by simp [upd, f28], by simp [upd, f30], by simp [upd, f31], by simp [upd, f32], by simp [upd, f33], by simp [upd, f36], by simp [upd]⟩ hX hoM hres (by obtain ⟨s, hs⟩ := hcv; exact ⟨s, fun w' ⟨l, h⟩ => hs w' _ h⟩) (by obtain ⟨s, hs⟩ := hcs; exact ⟨s, fun w' ⟨l, h⟩ => hs w' _ h⟩)
  repeat (refine Par.upd ?_ (by decide) _)
  exact hP

set_option maxHeartbeats 1000000 in
theorem tail28 {w0 w : World} {zs : List Int} {f : Nat → Value} {mo : Obj} (x : Addr) (ha : 0 < n → a = some x) (hn : n ≤ 1048576)
    (hcell : ∀ {w' : World} {os' : List Obj}, Rep w0 w' os' → ∀ i, i < n → w'.cell? (x.add i) = some (.int .u8 (zs.getD i 0))) (hz : ∀ i, i < n → 0 ≤ zs.getD i 0) (hds : 0 ≤ ds) {sq : Nat} (hsq : sq < 4) (hdq : ds % 4 = (sq : Int))
    (hcv : ∃ s : ByteArray, ∀ w' os', Rep w0 w' os' → (convert 22 9 (.slice va vn vc)).run Yba.prog w' = .ok (.string s) w') (hcs : ∃ s : ByteArray, ∀ w' os', Rep w0 w' os' → (convert 22 9 (.slice sa sn sc)).run Yba.prog w' = .ok (.string s) w')
    (hL : Locks mo n (locksOf w0.heap.size zs n)) (hP : Par f a n c hd ds hl lr kd ht rd fm va vn vc sa sn sc)
    (f24 : f 24 = .slice (some ⟨w0.heap.size + 1, 0, none⟩) n n) (f25 : f 25 = .pointer (some ⟨w0.heap.size + 2, 0, none⟩)) {E W : Nat} {lk dp : Option Addr} {os : List Obj} (hM : Mem mo w0.heap.size n zs sq E W hl hd lr lk dp os) (f28 : f 28 = .int .i64 (cnt (locksOf w0.heap.size zs n)))
    (f30 : f 30 = .pointer (some ⟨w0.heap.size + E, 0, none⟩)) (f31 : f 31 = .pointer lk) (f32 : f 32 = .pointer (some ⟨w0.heap.size + W, 0, none⟩)) (f33 : f 33 = .pointer dp) (hr : Rep w0 w os) :
    CF Yba.prog 287 (tailFrom 28 (Yba.f4.body.getD .skip)) (endF Yba.prog Yba.f4 fun e w' => e = .returned (.bool true) ∧ Below w0.heap.size w0 w') f w := by
  obtain ⟨f0, f1, f2, f3, f4, f5, f6, f7, f8, f9, f10⟩ := id hP
  refine CF.seq (CF.region ?_)
  -- region 28
  refine RF.move _ (.int .u8 kd) rfl rfl (by decide) rfl (by simp [ev, upd, f0, f1, f2, f3, f4, f5, f6, f7, f8, f9, f10, f24, f25, f28, f30, f31, f32, f33]) ?_
  refine RF.move _ (.int .u64 ht) rfl rfl (by decide) rfl (by simp [ev, upd, f0, f1, f2, f3, f4, f5, f6, f7, f8, f9, f10, f24, f25, f28, f30, f31, f32, f33]) ?_
  refine RF.move _ (.int .u64 rd) rfl rfl (by decide) rfl (by simp [ev, upd, f0, f1, f2, f3, f4, f5, f6, f7, f8, f9, f10, f24, f25, f28, f30, f31, f32, f33]) ?_
  refine RF.move _ (.int .i64 fm) rfl rfl (by decide) rfl (by simp [ev, upd, f0, f1, f2, f3, f4, f5, f6, f7, f8, f9, f10, f24, f25, f28, f30, f31, f32, f33]) ?_
  refine RF.move _ (.slice va vn vc) rfl rfl (by decide) rfl (by simp [ev, upd, f0, f1, f2, f3, f4, f5, f6, f7, f8, f9, f10, f24, f25, f28, f30, f31, f32, f33]) ?_
  refine RF.move _ (.pointer lk) rfl rfl (by decide) rfl (by simp [ev, upd, f0, f1, f2, f3, f4, f5, f6, f7, f8, f9, f10, f24, f25, f28, f30, f31, f32, f33]) ?_
  refine RF.move _ (.pointer dp) rfl rfl (by decide) rfl (by simp [ev, upd, f0, f1, f2, f3, f4, f5, f6, f7, f8, f9, f10, f24, f25, f28, f30, f31, f32, f33]) ?_
  refine RF.move _ (.slice sa sn sc) rfl rfl (by decide) rfl (by simp [ev, upd, f0, f1, f2, f3, f4, f5, f6, f7, f8, f9, f10, f24, f25, f28, f30, f31, f32, f33]) ?_
  refine RF.run (.agg (rs kd ht rd fm va vn vc lk dp sa sn sc)) rfl rfl (by decide) (by simp [execOp, ev, upd, eqGuard, f0, f1, f2, f3, f4, f5, f6, f7, f8, f9, f10, f24, f25, f28, f30, f31, f32, f33, build44]) ?_
  refine RF.new 44 _ _ (rs kd ht rd fm va vn vc lk dp sa sn sc) hr rfl rfl (by decide) rfl zero44 rfl rfl rfl (by simp [ev, upd, f0, f1, f2, f3, f4, f5, f6, f7, f8, f9, f10, f24, f25, f28, f30, f31, f32, f33]) (rs_info _ _ _ _ _ _ _ _ _ _ _ _) rfl (rs_one _ _ _ _ _ _ _ _ _ _ _ _) (fun w1 r1 => ?_)
  refine RF.done (CF.seq (CF.region ?_))
  have hM1 := hM.append [.cells (rs kd ht rd fm va vn vc lk dp sa sn sc) 44]
  rcases hM.odp with ⟨rfl, rfl⟩ | ⟨rfl, D, rfl, hDo⟩
  · skip
    -- region 29
    refine RF.move _ (.pointer (some ⟨w0.heap.size + E, 0, none⟩)) rfl rfl (by decide) rfl (by simp [ev, upd, f0, f1, f2, f3, f4, f5, f6, f7, f8, f9, f10, f24, f25, f28, f30, f31, f32, f33]) ?_
    refine RF.loadRow 44 44 _ _ os.length (rs kd ht rd fm va vn vc lk none sa sn sc) (0, 0) r1 (by simp) rfl rfl (by decide) rfl Yba.underlying44 rfl (by simp [ev, upd, f0, f1, f2, f3, f4, f5, f6, f7, f8, f9, f10, f24, f25, f28, f30, f31, f32, f33]) (rs_info _ _ _ _ _ _ _ _ _ _ _ _) ?_
    refine RF.call 9 #[.pointer (some ⟨w0.heap.size + E, 0, none⟩), .agg (rs kd ht rd fm va vn vc lk none sa sn sc)] rfl rfl (by decide) (x_call 9 _ _ _ _ rfl Yba.func9 (by kernel_rfl) rfl (by simp [ev, upd, f0, f1, f2, f3, f4, f5, f6, f7, f8, f9, f10, f24, f25, f28, f30, f31, f32, f33]) rfl) (withLock_nil (w0.heap.size + E) (rs kd ht rd fm va vn vc lk none sa sn sc) w1 rfl (rs_one _ _ _ _ _ _ _ _ _ _ _ _) rfl) (fun v w2 hv => ?_)
    obtain ⟨rfl, r2⟩ := hv
    have r3 := r1.trans r2
    refine RF.new 44 _ _ (rs kd ht rd fm va vn vc lk none sa sn sc) r3 rfl rfl (by decide) rfl zero44 rfl rfl rfl (by simp [ev, upd, f0, f1, f2, f3, f4, f5, f6, f7, f8, f9, f10, f24, f25, f28, f30, f31, f32, f33]) (rs_info _ _ _ _ _ _ _ _ _ _ _ _) rfl (rs_one _ _ _ _ _ _ _ _ _ _ _ _) (fun w4 r4 => ?_)
    refine RF.done ?_
    refine tail30 (mo := mo) x ha hn hcell hz hds hsq hdq hcv hcs hL (a := a) (c := c) (ds := ds) (kd := kd) (ht := ht) (rd := rd) (fm := fm) (va := va) (vn := vn) (vc := vc) (sa := sa) (sn := sn) (sc := sc) (hP := ?_) (by simp [upd, f24]) (by simp [upd, f25]) ((hM1.append _).append _) (by simp [upd, f28]) (by simp [upd, f30]) (by simp [upd, f31]) (by simp [upd, f32]) (by simp [upd, f33]) (by rw [upd_same]) r4.x (rl := lk) (rg := none) (by simp) (.inr ⟨.inl rfl, rfl, rfl⟩)
    repeat (refine Par.upd ?_ (by decide) _)
    exact hP
  · obtain ⟨l, hl1, hlook⟩ := hL.look_ok hsq
    cases hlast : lastOf zs n sq with
    | some i =>
      have hlock : locksOf w0.heap.size zs n sq = some (w0.heap.size + 3 + 3 * i) := by unfold locksOf; rw [hlast]; rfl
      have hl2 := hl1 _ hlock
      subst hl2
      have hres : locked (rs kd ht rd fm va vn vc lk (some ⟨w0.heap.size + D, 0, none⟩) sa sn sc) (.pointer (some ⟨w0.heap.size + 3 + 3 * i, 0, none⟩)) (locksOf w0.heap.size zs n sq).isSome = rs kd ht rd fm va vn vc (some ⟨w0.heap.size + 3 + 3 * i, 0, none⟩) none sa sn sc := by rw [hlock]; rfl
      -- region 29
      refine RF.move _ (.pointer (some ⟨w0.heap.size + E, 0, none⟩)) rfl rfl (by decide) rfl (by simp [ev, upd, f0, f1, f2, f3, f4, f5, f6, f7, f8, f9, f10, f24, f25, f28, f30, f31, f32, f33]) ?_
      refine RF.loadRow 44 44 _ _ os.length (rs kd ht rd fm va vn vc lk (some ⟨w0.heap.size + D, 0, none⟩) sa sn sc) (0, 0) r1 (by simp) rfl rfl (by decide) rfl Yba.underlying44 rfl (by simp [ev, upd, f0, f1, f2, f3, f4, f5, f6, f7, f8, f9, f10, f24, f25, f28, f30, f31, f32, f33]) (rs_info _ _ _ _ _ _ _ _ _ _ _ _) ?_
      refine RF.call 9 #[.pointer (some ⟨w0.heap.size + E, 0, none⟩), .agg (rs kd ht rd fm va vn vc lk (some ⟨w0.heap.size + D, 0, none⟩) sa sn sc)] rfl rfl (by decide) (x_call 9 _ _ _ _ rfl Yba.func9 (by kernel_rfl) rfl (by simp [ev, upd, f0, f1, f2, f3, f4, f5, f6, f7, f8, f9, f10, f24, f25, f28, f30, f31, f32, f33]) rfl) (withLock_some (w0.heap.size + E) (w0.heap.size + D) w0.heap.size (rs kd ht rd fm va vn vc lk (some ⟨w0.heap.size + D, 0, none⟩) sa sn sc) (evd w0.heap.size) (dig (sq : Nat)) (some ⟨w0.heap.size + 3 + 3 * i, 0, none⟩) (locksOf w0.heap.size zs n sq).isSome w1 (0, 0) (0, 0) rfl (rs_one _ _ _ _ _ _ _ _ _ _ _ _) rfl (r1.block (app_at hM.oE)) (evd_39 _) (r1.block (app_at hDo)) (dig_size _) (fun w9 os9 r9 => hlook w9 w0.heap.size ((r1.trans r9).block (i := 0) (app_at (app_at hM.o0))))) (fun v w2 hv => ?_)
      obtain ⟨rfl, r2⟩ := hv
      have r3 := r1.trans r2
      rw [hres] at r3 ⊢
      refine RF.new 44 _ _ (rs kd ht rd fm va vn vc (some ⟨w0.heap.size + 3 + 3 * i, 0, none⟩) none sa sn sc) r3 rfl rfl (by decide) rfl zero44 rfl rfl rfl (by simp [ev, upd, f0, f1, f2, f3, f4, f5, f6, f7, f8, f9, f10, f24, f25, f28, f30, f31, f32, f33]) (rs_info _ _ _ _ _ _ _ _ _ _ _ _) rfl (rs_one _ _ _ _ _ _ _ _ _ _ _ _) (fun w4 r4 => ?_)
      refine RF.done ?_
      refine tail30 (mo := mo) x ha hn hcell hz hds hsq hdq hcv hcs hL (a := a) (c := c) (ds := ds) (kd := kd) (ht := ht) (rd := rd) (fm := fm) (va := va) (vn := vn) (vc := vc) (sa := sa) (sn := sn) (sc := sc) (hP := ?_) (by simp [upd, f24]) (by simp [upd, f25]) ((hM1.append _).append _) (by simp [upd, f28]) (by simp [upd, f30]) (by simp [upd, f31]) (by simp [upd, f32]) (by simp [upd, f33]) (by rw [upd_same]) r4.x (rl := (some ⟨w0.heap.size + 3 + 3 * i, 0, none⟩)) (rg := none) (by simp) (.inl ⟨rfl, i, hlast, rfl, rfl⟩)
      repeat (refine Par.upd ?_ (by decide) _)
      exact hP
    | none =>
      have hlock : locksOf w0.heap.size zs n sq = none := by unfold locksOf; rw [hlast]; rfl
      have hres : locked (rs kd ht rd fm va vn vc lk (some ⟨w0.heap.size + D, 0, none⟩) sa sn sc) (.pointer l) (locksOf w0.heap.size zs n sq).isSome = rs kd ht rd fm va vn vc lk (some ⟨w0.heap.size + D, 0, none⟩) sa sn sc := by rw [hlock]; rfl
      -- region 29
      refine RF.move _ (.pointer (some ⟨w0.heap.size + E, 0, none⟩)) rfl rfl (by decide) rfl (by simp [ev, upd, f0, f1, f2, f3, f4, f5, f6, f7, f8, f9, f10, f24, f25, f28, f30, f31, f32, f33]) ?_
      refine RF.loadRow 44 44 _ _ os.length (rs kd ht rd fm va vn vc lk (some ⟨w0.heap.size + D, 0, none⟩) sa sn sc) (0, 0) r1 (by simp) rfl rfl (by decide) rfl Yba.underlying44 rfl (by simp [ev, upd, f0, f1, f2, f3, f4, f5, f6, f7, f8, f9, f10, f24, f25, f28, f30, f31, f32, f33]) (rs_info _ _ _ _ _ _ _ _ _ _ _ _) ?_
      refine RF.call 9 #[.pointer (some ⟨w0.heap.size + E, 0, none⟩), .agg (rs kd ht rd fm va vn vc lk (some ⟨w0.heap.size + D, 0, none⟩) sa sn sc)] rfl rfl (by decide) (x_call 9 _ _ _ _ rfl Yba.func9 (by kernel_rfl) rfl (by simp [ev, upd, f0, f1, f2, f3, f4, f5, f6, f7, f8, f9, f10, f24, f25, f28, f30, f31, f32, f33]) rfl) (withLock_some (w0.heap.size + E) (w0.heap.size + D) w0.heap.size (rs kd ht rd fm va vn vc lk (some ⟨w0.heap.size + D, 0, none⟩) sa sn sc) (evd w0.heap.size) (dig (sq : Nat)) l (locksOf w0.heap.size zs n sq).isSome w1 (0, 0) (0, 0) rfl (rs_one _ _ _ _ _ _ _ _ _ _ _ _) rfl (r1.block (app_at hM.oE)) (evd_39 _) (r1.block (app_at hDo)) (dig_size _) (fun w9 os9 r9 => hlook w9 w0.heap.size ((r1.trans r9).block (i := 0) (app_at (app_at hM.o0))))) (fun v w2 hv => ?_)
      obtain ⟨rfl, r2⟩ := hv
      have r3 := r1.trans r2
      rw [hres] at r3 ⊢
      refine RF.new 44 _ _ (rs kd ht rd fm va vn vc lk (some ⟨w0.heap.size + D, 0, none⟩) sa sn sc) r3 rfl rfl (by decide) rfl zero44 rfl rfl rfl (by simp [ev, upd, f0, f1, f2, f3, f4, f5, f6, f7, f8, f9, f10, f24, f25, f28, f30, f31, f32, f33]) (rs_info _ _ _ _ _ _ _ _ _ _ _ _) rfl (rs_one _ _ _ _ _ _ _ _ _ _ _ _) (fun w4 r4 => ?_)
      refine RF.done ?_
      refine tail30 (mo := mo) x ha hn hcell hz hds hsq hdq hcv hcs hL (a := a) (c := c) (ds := ds) (kd := kd) (ht := ht) (rd := rd) (fm := fm) (va := va) (vn := vn) (vc := vc) (sa := sa) (sn := sn) (sc := sc) (hP := ?_) (by simp [upd, f24]) (by simp [upd, f25]) ((hM1.append _).append _) (by simp [upd, f28]) (by simp [upd, f30]) (by simp [upd, f31]) (by simp [upd, f32]) (by simp [upd, f33]) (by rw [upd_same]) r4.x (rl := lk) (rg := (some ⟨w0.heap.size + D, 0, none⟩)) (by simp) (.inr ⟨.inr hlast, rfl, rfl⟩)
      repeat (refine Par.upd ?_ (by decide) _)
      exact hP

end
end Go.Proofs.Ybulkebfq

/-
  LawS6386CWhole: from its beginning; the walk whole.
-/
import Derived.Test.YbulkebfqC7
namespace Go.Proofs.Ybulkebfq
open Go.RowKit
set_option linter.unusedSimpArgs false
set_option linter.unusedVariables false

theorem thenF_ret (K : (Nat → Value) → World → Prop) (Q : Exit → (Nat → Value) → World → Prop) (f : Nat → Value) (w : World) : thenF K Q .ret f w = Q .ret f w := rfl

section
variable {a : Option Addr} {n c : Nat} {hd : Bool} {ds : Int} {hl : Bool} {lr kd ht rd fm : Int} {va : Option Addr} {vn vc : Nat} {sa : Option Addr} {sn sc : Nat}

set_option maxHeartbeats 1000000 in
theorem tail23 {w0 w : World} {zs : List Int} {f : Nat → Value} {mo : Obj} (x : Addr) (ha : 0 < n → a = some x) (hn : n ≤ 1048576)
    (hcell : ∀ {w' : World} {os' : List Obj}, Rep w0 w' os' → ∀ i, i < n → w'.cell? (x.add i) = some (.int .u8 (zs.getD i 0))) (hz : ∀ i, i < n → 0 ≤ zs.getD i 0) (hds : 0 ≤ ds) {sq : Nat} (hsq : sq < 4) (hdq : ds % 4 = (sq : Int))
    (hcv : ∃ s : ByteArray, ∀ w' os', Rep w0 w' os' → (convert 22 9 (.slice va vn vc)).run Yba.prog w' = .ok (.string s) w') (hcs : ∃ s : ByteArray, ∀ w' os', Rep w0 w' os' → (convert 22 9 (.slice sa sn sc)).run Yba.prog w' = .ok (.string s) w')
    (hL : Locks mo n (locksOf w0.heap.size zs n)) (hP : Par f a n c hd ds hl lr kd ht rd fm va vn vc sa sn sc)
    (f24 : f 24 = .slice (some ⟨w0.heap.size + 1, 0, none⟩) n n) (f25 : f 25 = .pointer (some ⟨w0.heap.size + 2, 0, none⟩)) {E : Nat} {lk : Option Addr} {os : List Obj} (f28 : f 28 = .int .i64 (cnt (locksOf w0.heap.size zs n)))
    (f30 : f 30 = .pointer (some ⟨w0.heap.size + E, 0, none⟩)) (f31 : f 31 = .pointer lk) (hr : Rep w0 w os)
    (o0 : os[0]? = some mo) (o1 : os[1]? = some (.cells (ptrArr w0.heap.size n n) 37)) (o2 : os[2]? = some (.cells (lastArr zs n) 36)) (om : ∀ i, i < n → os[3 + 3 * i]? = some (.cells (msg i) 44)) (oE : os[E]? = some (.cells (evd w0.heap.size) 58))
    (olk : (hl = false ∧ lk = none) ∨ (hl = true ∧ ∃ L, lk = some ⟨w0.heap.size + L, 0, none⟩ ∧ os[L]? = some (.cells (msg lr) 44))) :
    CF Yba.prog 287 (tailFrom 23 (Yba.f4.body.getD .skip)) (endF Yba.prog Yba.f4 fun e w' => e = .returned (.bool true) ∧ Below w0.heap.size w0 w') f w := by
  obtain ⟨f0, f1, f2, f3, f4, f5, f6, f7, f8, f9, f10⟩ := id hP
  refine CF.seq (CF.region ?_)
  -- region 23
  refine RF.move _ (.int .u8 ds) rfl rfl (by decide) rfl (by simp [ev, upd, f0, f1, f2, f3, f4, f5, f6, f7, f8, f9, f10, f24, f25, f28, f30, f31]) ?_
  refine RF.call 8 #[.int .u8 ds] rfl rfl (by decide) (x_call 8 _ _ _ _ rfl Yba.func8 (by kernel_rfl) rfl (by simp [ev, upd, f0, f1, f2, f3, f4, f5, f6, f7, f8, f9, f10, f24, f25, f28, f30, f31]) rfl) (dig_any _ _ hds) (fun v w1 hv => ?_)
  obtain ⟨rfl, r1⟩ := hv
  rw [hdq] at r1 ⊢
  have r2 := hr.trans r1
  refine RF.new 45 _ _ (dig sq) r2 rfl rfl (by decide) rfl zero45 rfl rfl rfl (by simp [ev, upd, f0, f1, f2, f3, f4, f5, f6, f7, f8, f9, f10, f24, f25, f28, f30, f31]) (dig_info _) (by rw [dig_size]; exact zer_size) (dig_one _) (fun w3 r3 => ?_)
  refine RF.done (CF.seq (CF.region ?_))
  -- region 24
  refine RF.assign _ (.pointer none) rfl rfl (by decide) rfl (by simp [ev, upd, f0, f1, f2, f3, f4, f5, f6, f7, f8, f9, f10, f24, f25, f28, f30, f31]) ?_
  refine RF.done (CF.seq (CF.seq (CF.region ?_)))
  -- region 25
  refine RF.move _ (.bool hd) rfl rfl (by decide) rfl (by simp [ev, upd, f0, f1, f2, f3, f4, f5, f6, f7, f8, f9, f10, f24, f25, f28, f30, f31]) ?_
  refine RF.done ?_
  have hM : ∀ dp : Option Addr, ∀ os4 : List Obj, ((hd = false ∧ dp = none) ∨ (hd = true ∧ ∃ D, dp = some ⟨w0.heap.size + D, 0, none⟩ ∧ ((os ++ [Obj.cells (dig sq) 45, Obj.cells (dig sq) 45] ++ [Obj.cells (dig sq) 45]) ++ os4)[D]? = some (.cells (dig sq) 45))) →
      Mem mo w0.heap.size n zs sq E (os ++ [Obj.cells (dig sq) 45, Obj.cells (dig sq) 45]).length hl hd lr lk dp ((os ++ [Obj.cells (dig sq) 45, Obj.cells (dig sq) 45] ++ [Obj.cells (dig sq) 45]) ++ os4) := fun dp os4 hdp =>
    ⟨app_at (app_at (app_at o0)), app_at (app_at (app_at o1)), app_at (app_at (app_at o2)), fun i hi => app_at (app_at (app_at (om i hi))), app_at (app_at (app_at oE)), by rw [List.append_assoc, List.getElem?_append_right (Nat.le_refl _)]; simp,
      olk.imp id (fun ⟨h1, L, h2, h3⟩ => ⟨h1, L, h2, app_at (app_at (app_at h3))⟩), hdp⟩
  cases hd
  · refine CF.condF (by simp [ev, upd]) (CF.skip ?_)
    show CF _ _ _ _ _ _
    refine tail28 (mo := mo) x ha hn hcell hz hds hsq hdq hcv hcs hL (a := a) (c := c) (ds := ds) (kd := kd) (ht := ht) (rd := rd) (fm := fm) (va := va) (vn := vn) (vc := vc) (sa := sa) (sn := sn) (sc := sc) (hP := ?_) (by simp [upd, f24]) (by simp [upd, f25]) (lk := lk) (dp := none) (E := E) (W := (os ++ [Obj.cells (dig sq) 45, Obj.cells (dig sq) 45]).length) (by have := hM none [] (.inl ⟨rfl, rfl⟩); rw [List.append_nil] at this; exact this) (by simp [upd, f28]) (by simp [upd, f30]) (by simp [upd, f31]) (by simp [upd]) (by simp [upd]) r3
    repeat (refine Par.upd ?_ (by decide) _)
    exact hP
  · refine CF.condT (by simp [ev, upd]) ?_
    refine CF.seq (CF.region ?_)
    -- region 26
    refine RF.loadRow 45 45 _ _ (os ++ [Obj.cells (dig sq) 45, Obj.cells (dig sq) 45]).length (dig sq) (0, 0) r3 (by simp) rfl rfl (by decide) rfl Yba.underlying45 rfl (by simp [ev, upd, f0, f1, f2, f3, f4, f5, f6, f7, f8, f9, f10, f24, f25, f28, f30, f31]) (dig_info _) ?_
    refine RF.new 45 _ _ (dig sq) r3 rfl rfl (by decide) rfl zero45 rfl rfl rfl (by simp [ev, upd, f0, f1, f2, f3, f4, f5, f6, f7, f8, f9, f10, f24, f25, f28, f30, f31]) (dig_info _) (by rw [dig_size]; exact zer_size) (dig_one _) (fun w4 r4 => ?_)
    refine RF.done (CF.region ?_)
    -- region 27
    refine RF.assign _ (.pointer (some ⟨w0.heap.size + (os ++ [Obj.cells (dig sq) 45, Obj.cells (dig sq) 45] ++ [Obj.cells (dig sq) 45]).length, 0, none⟩)) rfl rfl (by decide) rfl (by simp [ev, upd, f0, f1, f2, f3, f4, f5, f6, f7, f8, f9, f10, f24, f25, f28, f30, f31]) ?_
    refine RF.nil ?_
    show CF _ _ _ _ _ _
    refine tail28 (mo := mo) x ha hn hcell hz hds hsq hdq hcv hcs hL (a := a) (c := c) (ds := ds) (kd := kd) (ht := ht) (rd := rd) (fm := fm) (va := va) (vn := vn) (vc := vc) (sa := sa) (sn := sn) (sc := sc) (hP := ?_) (by simp [upd, f24]) (by simp [upd, f25]) (lk := lk) (dp := (some ⟨w0.heap.size + (os ++ [Obj.cells (dig sq) 45, Obj.cells (dig sq) 45] ++ [Obj.cells (dig sq) 45]).length, 0, none⟩)) (E := E) (W := (os ++ [Obj.cells (dig sq) 45, Obj.cells (dig sq) 45]).length) (hM _ [.cells (dig sq) 45] (.inr ⟨rfl, _, rfl, by simp⟩)) (by simp [upd, f28]) (by simp [upd, f30]) (by simp [upd, f31]) (by simp [upd]) (by simp [upd]) r4
    repeat (refine Par.upd ?_ (by decide) _)
    exact hP

set_option maxHeartbeats 1000000 in
theorem tail19 {w0 w : World} {zs : List Int} {f : Nat → Value} {mo : Obj} (x : Addr) (ha : 0 < n → a = some x) (hn : n ≤ 1048576)
    (hcell : ∀ {w' : World} {os' : List Obj}, Rep w0 w' os' → ∀ i, i < n → w'.cell? (x.add i) = some (.int .u8 (zs.getD i 0))) (hz : ∀ i, i < n → 0 ≤ zs.getD i 0) (hds : 0 ≤ ds) {sq : Nat} (hsq : sq < 4) (hdq : ds % 4 = (sq : Int))
    (hcv : ∃ s : ByteArray, ∀ w' os', Rep w0 w' os' → (convert 22 9 (.slice va vn vc)).run Yba.prog w' = .ok (.string s) w') (hcs : ∃ s : ByteArray, ∀ w' os', Rep w0 w' os' → (convert 22 9 (.slice sa sn sc)).run Yba.prog w' = .ok (.string s) w')
    (hL : Locks mo n (locksOf w0.heap.size zs n)) (hP : Par f a n c hd ds hl lr kd ht rd fm va vn vc sa sn sc)
    (f24 : f 24 = .slice (some ⟨w0.heap.size + 1, 0, none⟩) n n) (f25 : f 25 = .pointer (some ⟨w0.heap.size + 2, 0, none⟩)) (f23 : f 23 = .map (some w0.heap.size)) (f28 : f 28 = .int .i64 (cnt (locksOf w0.heap.size zs n))) (hr : Rep w0 w (mem1 mo w0.heap.size n zs n)) :
    CF Yba.prog 287 (tailFrom 19 (Yba.f4.body.getD .skip)) (endF Yba.prog Yba.f4 fun e w' => e = .returned (.bool true) ∧ Below w0.heap.size w0 w') f w := by
  obtain ⟨f0, f1, f2, f3, f4, f5, f6, f7, f8, f9, f10⟩ := id hP
  have hE : (mem1 mo w0.heap.size n zs n ++ [Obj.cells (evd w0.heap.size) 58])[3 + 3 * n]? = some (.cells (evd w0.heap.size) 58) := by
    rw [List.getElem?_append_right (by rw [mem1_length]; omega), mem1_length]; simp
  refine CF.seq (CF.region ?_)
  -- region 19
  refine RF.move _ (.map (some w0.heap.size)) rfl rfl (by decide) rfl (by simp [ev, upd, f0, f1, f2, f3, f4, f5, f6, f7, f8, f9, f10, f23, f24, f25, f28]) ?_
  refine RF.run (.agg (evd w0.heap.size)) rfl rfl (by decide) (by simp [execOp, ev, upd, eqGuard, f0, f1, f2, f3, f4, f5, f6, f7, f8, f9, f10, f23, f24, f25, f28, build58]) ?_
  refine RF.box 58 _ (evd w0.heap.size) hr rfl rfl (by decide) rfl (by simp [ev, upd, f0, f1, f2, f3, f4, f5, f6, f7, f8, f9, f10, f23, f24, f25, f28]) (fun w1 r1 => ?_)
  rw [mem1_length]
  refine RF.assign _ (.pointer (some ⟨w0.heap.size + (3 + 3 * n), 0, none⟩)) rfl rfl (by decide) rfl (by simp [ev, upd, f0, f1, f2, f3, f4, f5, f6, f7, f8, f9, f10, f23, f24, f25, f28]) ?_
  refine RF.done (CF.seq (CF.region ?_))
  -- region 20
  refine RF.assign _ (.pointer none) rfl rfl (by decide) rfl (by simp [ev, upd, f0, f1, f2, f3, f4, f5, f6, f7, f8, f9, f10, f23, f24, f25, f28]) ?_
  refine RF.done (CF.seq (CF.seq (CF.region ?_)))
  -- region 21
  refine RF.move _ (.bool hl) rfl rfl (by decide) rfl (by simp [ev, upd, f0, f1, f2, f3, f4, f5, f6, f7, f8, f9, f10, f23, f24, f25, f28]) ?_
  refine RF.done ?_
  cases hl
  · refine CF.condF (by simp [ev, upd]) (CF.skip ?_)
    show CF _ _ _ _ _ _
    refine tail23 (mo := mo) x ha hn hcell hz hds hsq hdq hcv hcs hL (a := a) (c := c) (ds := ds) (kd := kd) (ht := ht) (rd := rd) (fm := fm) (va := va) (vn := vn) (vc := vc) (sa := sa) (sn := sn) (sc := sc) (hd := hd) (lr := lr) (hP := ?_) (by simp [upd, f24]) (by simp [upd, f25]) (E := 3 + 3 * n) (lk := none) (by simp [upd, f28]) (by simp [upd]) (by simp [upd]) r1 (app_at rfl) (app_at rfl) (app_at rfl) (fun i hi => app_at (mem1_msg mo _ n zs n i hi)) hE (.inl ⟨rfl, rfl⟩)
    repeat (refine Par.upd ?_ (by decide) _)
    exact hP
  · refine CF.condT (by simp [ev, upd]) ?_
    refine CF.region ?_
    -- region 22
    refine RF.move _ (.int .u64 lr) rfl rfl (by decide) rfl (by simp [ev, upd, f0, f1, f2, f3, f4, f5, f6, f7, f8, f9, f10, f23, f24, f25, f28]) ?_
    refine RF.run (.agg (msg lr)) rfl rfl (by decide) (by simp [execOp, ev, upd, eqGuard, f0, f1, f2, f3, f4, f5, f6, f7, f8, f9, f10, f23, f24, f25, f28, build44_2]) ?_
    refine RF.box 44 _ (msg lr) r1 rfl rfl (by decide) rfl (by simp [ev, upd, f0, f1, f2, f3, f4, f5, f6, f7, f8, f9, f10, f23, f24, f25, f28]) (fun w2 r2 => ?_)
    refine RF.assign _ (.pointer (some ⟨w0.heap.size + (mem1 mo w0.heap.size n zs n ++ [Obj.cells (evd w0.heap.size) 58]).length, 0, none⟩)) rfl rfl (by decide) rfl (by simp [ev, upd, f0, f1, f2, f3, f4, f5, f6, f7, f8, f9, f10, f23, f24, f25, f28]) ?_
    refine RF.nil ?_
    show CF _ _ _ _ _ _
    refine tail23 (mo := mo) x ha hn hcell hz hds hsq hdq hcv hcs hL (a := a) (c := c) (ds := ds) (kd := kd) (ht := ht) (rd := rd) (fm := fm) (va := va) (vn := vn) (vc := vc) (sa := sa) (sn := sn) (sc := sc) (hd := hd) (lr := lr) (hP := ?_) (by simp [upd, f24]) (by simp [upd, f25]) (E := 3 + 3 * n) (lk := some ⟨w0.heap.size + (mem1 mo w0.heap.size n zs n ++ [Obj.cells (evd w0.heap.size) 58]).length, 0, none⟩) (by simp [upd, f28]) (by simp [upd]) (by simp [upd]) r2 (app_at <| app_at rfl) (app_at <| app_at rfl) (app_at <| app_at rfl) (fun i hi => app_at <| app_at (mem1_msg mo _ n zs n i hi)) (app_at hE) (.inr ⟨rfl, _, rfl, by simp⟩)
    repeat (refine Par.upd ?_ (by decide) _)
    exact hP

/-- How many of the first s selectors have a lock. -/
def cs (zs : List Int) (n : Nat) : Nat → Nat
  | 0 => 0
  | s + 1 => cs zs n s + (if (lastOf zs n s).isSome then 1 else 0)
theorem cs_le (zs : List Int) (n : Nat) : ∀ s, cs zs n s ≤ s
  | 0 => Nat.le_refl _
  | s + 1 => by have := cs_le zs n s; unfold cs; split <;> omega
theorem cs_four (zs : List Int) (n H : Nat) : cs zs n 4 = cnt (locksOf H zs n) := by
  have e4 : List.range 4 = [0, 1, 2, 3] := rfl
  unfold cnt locksOf
  rw [e4]
  simp only [cs, Option.isSome_map, List.filter_cons, List.filter_nil]
  cases (lastOf zs n 0).isSome <;> cases (lastOf zs n 1).isSome <;> cases (lastOf zs n 2).isSome <;> cases (lastOf zs n 3).isSome <;> rfl

/-- What holds at the head of the second loop. -/
def Inv2 (w0 : World) (zs : List Int) (a : Option Addr) (n c : Nat) (hd : Bool) (ds : Int) (hl : Bool) (lr kd ht rd fm : Int) (va : Option Addr) (vn vc : Nat) (sa : Option Addr) (sn sc : Nat) (s : Nat) (f : Nat → Value) : Prop :=
  Par f a n c hd ds hl lr kd ht rd fm va vn vc sa sn sc ∧ f 23 = .map (some w0.heap.size) ∧ f 24 = .slice (some ⟨w0.heap.size + 1, 0, none⟩) n n ∧ f 25 = .pointer (some ⟨w0.heap.size + 2, 0, none⟩) ∧ f 28 = .int .i64 (cs zs n s : Int) ∧ f 29 = .int .i64 (s : Int)

set_option maxHeartbeats 1000000 in
theorem round2 {w0 w : World} {zs : List Int} {s : Nat} {f : Nat → Value} {mo : Obj} {Q : Exit → (Nat → Value) → World → Prop} (hs4 : s ≤ 4) (hr : Rep w0 w (mem1 mo w0.heap.size n zs n))
    (hI : Inv2 w0 zs a n c hd ds hl lr kd ht rd fm va vn vc sa sn sc s f)
    (hout : ∀ f', s = 4 → Inv2 w0 zs a n c hd ds hl lr kd ht rd fm va vn vc sa sn sc s f' → Q (.exit 2) f' w)
    (hnext : ∀ f', s < 4 → Inv2 w0 zs a n c hd ds hl lr kd ht rd fm va vn vc sa sn sc (s + 1) f' → Q .normal f' w) :
    CF Yba.prog 287 ((loops (Yba.f4.body.getD .skip)).getD 1 .skip) Q f w := by
  obtain ⟨hP, f23, f24, f25, f28, f29⟩ := hI
  have hcl := cs_le zs n s
  have hw1 : IntKind.i64.wrap ((cs zs n s : Int) + 1) = (cs zs n s : Int) + 1 := IntWalk.i64_in _ (by omega)
  have hw2 : IntKind.i64.wrap ((s : Int) + 1) = (s : Int) + 1 := IntWalk.i64_in _ (by omega)
  refine CF.seq (CF.seq (CF.region ?_))
  -- region 15
  refine RF.move _ (.int .i64 (s : Int)) rfl rfl (by decide) rfl (by simp [ev, upd, f25, f28, f29]) ?_
  refine RF.run (.bool (decide ((s : Int) < 4))) rfl rfl (by decide) (by simp [execOp, ev, upd, eqGuard, f25, f28, f29, go_sem]) ?_
  refine RF.done ?_
  by_cases hs : s < 4
  · refine CF.condT (by simp [ev, upd]; omega) (CF.skip ?_)
    show CF _ _ _ _ _ _
    refine CF.seq (CF.block (CF.seq (CF.region ?_)))
    -- region 17
    refine RF.move _ (.int .i64 (s : Int)) rfl rfl (by decide) rfl (by simp [ev, upd, f25, f28, f29]) ?_
    refine RF.run (.pointer (some ⟨w0.heap.size + 2, s, none⟩)) rfl rfl (by decide) (by simp [execOp, ev, upd, eqGuard, f25, f28, f29, index36 _ _ _ _ hs]) ?_
    refine RF.run (.int .i64 (lastV (lastOf zs n s))) rfl rfl (by decide) (x_loadA 3 _ _ (⟨w0.heap.size + 2, s, none⟩) (.int .i64 (lastV (lastOf zs n s))) rfl Yba.underlying3 rfl (by simp [ev, upd, f25, f28, f29]) (cell_at (hr.block (i := 2) rfl) (lastArr_at _ _ _ hs))) ?_
    refine RF.run (.bool (lastOf zs n s).isSome) rfl rfl (by decide) (by simp [execOp, ev, upd, eqGuard, f25, f28, f29, go_sem, lastV_nonneg]) ?_
    refine RF.done ?_
    refine CF.condB (lastOf zs n s).isSome (by simp [ev, upd]) (fun hq => ?_) (fun hq => ?_)
    · refine CF.region ?_
      -- region 18
      refine RF.move _ (.int .i64 (cs zs n s : Int)) rfl rfl (by decide) rfl (by simp [ev, upd, f25, f28, f29]) ?_
      refine RF.run (.int .i64 ((cs zs n s : Int) + 1)) rfl rfl (by decide) (by simp [execOp, ev, upd, eqGuard, f25, f28, f29, go_sem, hw1]) ?_
      refine RF.assign _ (.int .i64 ((cs zs n s : Int) + 1)) rfl rfl (by decide) rfl (by simp [ev, upd, f25, f28, f29]) ?_
      refine RF.nil ?_
      show CF _ _ _ _ _ _
      refine CF.region ?_
      -- region 16
      refine RF.move _ (.int .i64 (s : Int)) rfl rfl (by decide) rfl (by simp [ev, upd, f25, f28, f29]) ?_
      refine RF.run (.int .i64 ((s + 1 : Nat) : Int)) rfl rfl (by decide) (by simp [execOp, ev, upd, eqGuard, f25, f28, f29, go_sem, hw2]) ?_
      refine RF.assign _ (.int .i64 ((s + 1 : Nat) : Int)) rfl rfl (by decide) rfl (by simp [ev, upd, f25, f28, f29]) ?_
      refine RF.nil ?_
      refine hnext _ hs ⟨?_, by simp [upd, f23], by simp [upd, f24], by simp [upd, f25], by simp [upd, cs, hq], by simp [upd]⟩
      repeat (refine Par.upd ?_ (by decide) _)
      exact hP
    · skip
      refine CF.skip ?_
      show CF _ _ _ _ _ _
      refine CF.region ?_
      -- region 16
      refine RF.move _ (.int .i64 (s : Int)) rfl rfl (by decide) rfl (by simp [ev, upd, f25, f28, f29]) ?_
      refine RF.run (.int .i64 ((s + 1 : Nat) : Int)) rfl rfl (by decide) (by simp [execOp, ev, upd, eqGuard, f25, f28, f29, go_sem, hw2]) ?_
      refine RF.assign _ (.int .i64 ((s + 1 : Nat) : Int)) rfl rfl (by decide) rfl (by simp [ev, upd, f25, f28, f29]) ?_
      refine RF.nil ?_
      refine hnext _ hs ⟨?_, by simp [upd, f23], by simp [upd, f24], by simp [upd, f25], by simp [upd, f28, cs, hq], by simp [upd]⟩
      repeat (refine Par.upd ?_ (by decide) _)
      exact hP
  · refine CF.condF (by simp [ev, upd]; omega) (CF.exit ?_)
    refine hout _ (by omega) ⟨?_, by simp [upd, f23], by simp [upd, f24], by simp [upd, f25], by simp [upd, f28], by simp [upd, f29]⟩
    repeat (refine Par.upd ?_ (by decide) _)
    exact hP

theorem tail13 {w0 w : World} {zs : List Int} {f : Nat → Value} {mo : Obj} (x : Addr) (ha : 0 < n → a = some x) (hn : n ≤ 1048576)
    (hcell : ∀ {w' : World} {os' : List Obj}, Rep w0 w' os' → ∀ i, i < n → w'.cell? (x.add i) = some (.int .u8 (zs.getD i 0))) (hz : ∀ i, i < n → 0 ≤ zs.getD i 0) (hds : 0 ≤ ds) {sq : Nat} (hsq : sq < 4) (hdq : ds % 4 = (sq : Int))
    (hcv : ∃ s : ByteArray, ∀ w' os', Rep w0 w' os' → (convert 22 9 (.slice va vn vc)).run Yba.prog w' = .ok (.string s) w') (hcs : ∃ s : ByteArray, ∀ w' os', Rep w0 w' os' → (convert 22 9 (.slice sa sn sc)).run Yba.prog w' = .ok (.string s) w')
    (hL : Locks mo n (locksOf w0.heap.size zs n)) (hP : Par f a n c hd ds hl lr kd ht rd fm va vn vc sa sn sc)
    (f24 : f 24 = .slice (some ⟨w0.heap.size + 1, 0, none⟩) n n) (f25 : f 25 = .pointer (some ⟨w0.heap.size + 2, 0, none⟩)) (f23 : f 23 = .map (some w0.heap.size)) (hr : Rep w0 w (mem1 mo w0.heap.size n zs n)) :
    CF Yba.prog 287 (tailFrom 13 (Yba.f4.body.getD .skip)) (endF Yba.prog Yba.f4 fun e w' => e = .returned (.bool true) ∧ Below w0.heap.size w0 w') f w := by
  refine CF.seq (CF.region ?_)
  refine RF.assign _ (.int .i64 ((0 : Nat) : Int)) rfl rfl (by decide) rfl rfl (RF.done ?_)
  refine CF.seq (CF.seq (CF.region ?_))
  refine RF.assign _ (.int .i64 ((0 : Nat) : Int)) rfl rfl (by decide) rfl rfl (RF.done ?_)
  refine CF.block ?_
  refine CF.loop (fun f w1 => w1 = w ∧ ∃ s : Nat, s ≤ 4 ∧ Inv2 w0 zs a n c hd ds hl lr kd ht rd fm va vn vc sa sn sc s f) (fun f _ => 4 - (intOf (f 29)).toNat) ?_ ?_
  · exact ⟨rfl, 0, Nat.zero_le _, (hP.upd (by decide) _).upd (by decide) _, by simp [upd, f23], by simp [upd, f24], by simp [upd, f25], by simp [upd, cs], by simp [upd]⟩
  · rintro f1 w1 ⟨rfl, s, hs4, hI1⟩
    have h29 := hI1.2.2.2.2.2
    refine round2 (mo := mo) hs4 hr hI1 (fun f2 hs hI2 => ?_) (fun f2 hs hI2 => ?_)
    · subst hs
      obtain ⟨hP2, g23, g24, g25, g28, g29⟩ := hI2
      show CF _ _ _ _ _ _
      exact tail19 (mo := mo) x ha hn hcell hz hds hsq hdq hcv hcs hL (a := a) (c := c) (ds := ds) (kd := kd) (ht := ht) (rd := rd) (fm := fm) (va := va) (vn := vn) (vc := vc) (sa := sa) (sn := sn) (sc := sc) hP2 g24 g25 g23 (by rw [g28, cs_four zs n w0.heap.size]) hr
    · refine ⟨⟨rfl, s + 1, by omega, hI2⟩, ?_⟩
      rw [h29, hI2.2.2.2.2.2]
      simp [intOf]
      omega

end

set_option maxHeartbeats 1000000 in
/-- THE WALK: LawS6386CWhole returns true and writes nothing that was there. -/
theorem walk (a : Option Addr) (n c : Nat) (zs : List Int) (hd : Bool) (ds : Int) (hl : Bool) (lr kd ht rd fm : Int) (va : Option Addr) (vn vc : Nat) (vz : List Int) (sa : Option Addr) (sn sc : Nat) (sz : List Int) (w : World)
    (h0 : IsRow .u8 w a n c zs) (hds : 0 ≤ ds) (hv : IsRow .u8 w va vn vc vz) (hs : IsRow .u8 w sa sn sc sz) :
    Calls Yba.prog 4 #[.slice a n c, .bool hd, .int .u8 ds, .bool hl, .int .u64 lr, .int .u8 kd, .int .u64 ht, .int .u64 rd, .int .i64 fm, .slice va vn vc, .slice sa sn sc] w fun e w' => e = .returned (.bool true) ∧ Below w.heap.size w w' := by
  refine calls_of_CF 287 Yba.func4 rfl rfl (by simp) ?_
  intro f hf
  have f0 : f 0 = .slice a n c := start_at hf 0 (by simp)
  have f1 : f 1 = .bool hd := start_at hf 1 (by simp)
  have f2 : f 2 = .int .u8 ds := start_at hf 2 (by simp)
  have f3 : f 3 = .bool hl := start_at hf 3 (by simp)
  have f4 : f 4 = .int .u64 lr := start_at hf 4 (by simp)
  have f5 : f 5 = .int .u8 kd := start_at hf 5 (by simp)
  have f6 : f 6 = .int .u64 ht := start_at hf 6 (by simp)
  have f7 : f 7 = .int .u64 rd := start_at hf 7 (by simp)
  have f8 : f 8 = .int .i64 fm := start_at hf 8 (by simp)
  have f9 : f 9 = .slice va vn vc := start_at hf 9 (by simp)
  have f10 : f 10 = .slice sa sn sc := start_at hf 10 (by simp)
  clear hf
  have hP : Par f a n c hd ds hl lr kd ht rd fm va vn vc sa sn sc := ⟨f0, f1, f2, f3, f4, f5, f6, f7, f8, f9, f10⟩
  -- what is known of the keys
  obtain ⟨x, hx, hcell, hz⟩ : ∃ x : Addr, (0 < n → a = some x) ∧ (∀ {w' : World} {os' : List Obj}, Rep w w' os' → ∀ i, i < n → w'.cell? (x.add i) = some (.int .u8 (zs.getD i 0))) ∧ (∀ i, i < n → 0 ≤ zs.getD i 0) := by
    rcases h0 with ⟨rfl, rfl, rfl, rfl⟩ | ⟨x, rfl, hlc, _, hzl, hc, hwf⟩
    · exact ⟨⟨0, 0, none⟩, by omega, fun _ i hi => by omega, fun i hi => by omega⟩
    · refine ⟨x, fun _ => rfl, fun hr i hi => ?_, fun i hi => ?_⟩
      · have h1 := hc i (by omega)
        rw [hr.below.cell (World.block_lt_of_cell? w _ h1), h1]
      · have hm : zs.getD i 0 ∈ zs := by
          have hi' : i < zs.length := by omega
          rw [List.getD_eq_getElem?_getD, List.getElem?_eq_getElem hi']
          simp
        have hb := hwf _ hm
        generalize zs.getD i 0 = y at hb ⊢
        simp [Lit.wf, IntKind.min, IntKind.max, IntKind.signed, IntKind.bits] at hb
        omega
  refine CF.seq (CF.region ?_)
  -- region 0
  refine RF.assign _ (.bool false) rfl rfl (by decide) rfl (by simp [ev, upd, f0, f1, f2, f3, f4, f5, f6, f7, f8, f9, f10]) ?_
  refine RF.done (CF.seq (CF.seq (CF.region ?_)))
  -- region 1
  refine RF.move _ (.slice a n c) rfl rfl (by decide) rfl (by simp [ev, upd, f0, f1, f2, f3, f4, f5, f6, f7, f8, f9, f10]) ?_
  refine RF.run (.int .i64 (n : Int)) rfl rfl (by decide) (x_len _ 22 (.slice a n c) _ rfl (by simp [ev, upd, f0, f1, f2, f3, f4, f5, f6, f7, f8, f9, f10]) (len22 _ _ _ _ _)) ?_
  refine RF.run (.bool (decide ((1048576 : Int) < (n : Int)))) rfl rfl (by decide) (by simp [execOp, ev, upd, eqGuard, f0, f1, f2, f3, f4, f5, f6, f7, f8, f9, f10, go_sem]) ?_
  refine RF.done ?_
  by_cases hn : 1048576 < n
  · refine CF.condT (by simp [ev, upd]; omega) ?_
    refine CF.seq (CF.region ?_)
    refine RF.assign _ (.bool true) rfl rfl (by decide) rfl rfl (RF.done ?_)
    refine CF.ret ?_
    rw [thenF_ret]
    exact endF_tmp rfl ⟨by simp [upd], Below.refl _ _⟩
  · refine CF.condF (by simp [ev, upd]; omega) (CF.skip ?_)
    show CF _ _ _ _ _ _
    refine CF.seq (CF.region ?_)
    -- region 3
    refine RF.val (.map (some w.heap.size)) (w.alloc (.map #[] 0)) rfl rfl (by decide) (by simp [execOp, run_makeMap, Result.andThen]) ?_
    have r1 : Rep w (w.alloc (.map #[] 0)) [.map #[] 0] := (Rep.refl w).alloc _
    generalize w.alloc (.map #[] 0) = w1 at r1 ⊢
    refine RF.assign _ (.map (some w.heap.size)) rfl rfl (by decide) rfl (by simp [ev, upd, f0, f1, f2, f3, f4, f5, f6, f7, f8, f9, f10]) ?_
    refine RF.done (CF.seq (CF.region ?_))
    -- region 4
    refine RF.move _ (.slice a n c) rfl rfl (by decide) rfl (by simp [ev, upd, f0, f1, f2, f3, f4, f5, f6, f7, f8, f9, f10]) ?_
    refine RF.run (.int .i64 (n : Int)) rfl rfl (by decide) (x_len _ 22 (.slice a n c) _ rfl (by simp [ev, upd, f0, f1, f2, f3, f4, f5, f6, f7, f8, f9, f10]) (len22 _ _ _ _ _)) ?_
    refine RF.val (.slice (some ⟨w1.heap.size, 0, none⟩) n n) (w1.alloc (.cells (madeCells #[.pointer none] n) 37)) rfl rfl (by decide) (by simp [execOp, ev, upd, run_make_row' 35 37 (.pointer none) 8 Yba.underlying35 info37 rfl .i64 .i64 n (by omega) (by omega), Result.andThen]) ?_
    rw [r1.size, ptrArr_zero w.heap.size n]
    have r2 := r1.alloc (.cells (ptrArr w.heap.size n 0) 37)
    generalize w1.alloc (.cells (ptrArr w.heap.size n 0) 37) = w2 at r2 ⊢
    refine RF.assign _ (.slice (some ⟨w.heap.size + 1, 0, none⟩) n n) rfl rfl (by decide) rfl (by simp [ev, upd, f0, f1, f2, f3, f4, f5, f6, f7, f8, f9, f10]) ?_
    refine RF.done (CF.seq (CF.region ?_))
    -- region 5
    refine RF.run (.agg #[.int .i64 (-1), .int .i64 (-1), .int .i64 (-1), .int .i64 (-1)]) rfl rfl (by decide) (by simp [execOp, ev, upd, eqGuard, f0, f1, f2, f3, f4, f5, f6, f7, f8, f9, f10, build36]) ?_
    refine RF.new 36 _ _ (lastArr zs 0) r2 rfl rfl (by decide) rfl zero36 rfl rfl rfl (by simp [ev, upd]; rfl) size36 rfl (by kernel_rfl) (fun w3 r3 => ?_)
    refine RF.done (CF.seq (CF.seq (CF.region ?_)))
    refine RF.assign _ (.int .i64 ((0 : Nat) : Int)) rfl rfl (by decide) rfl rfl (RF.done ?_)
    refine CF.block ?_
    refine CF.loop (fun f w1 => ∃ k : Nat, k ≤ n ∧ f 26 = .int .i64 (k : Int) ∧ Inv1 w zs a n c hd ds hl lr kd ht rd fm va vn vc sa sn sc k f w1) (fun f _ => n - (intOf (f 26)).toNat) ?_ ?_
    · refine ⟨0, Nat.zero_le _, by simp [upd], .map #[] 0, ?_, by simp [upd], by simp [upd], by simp [upd], ?_, r3⟩
      · repeat (refine Par.upd ?_ (by decide) _)
        exact hP
      · rw [locksOf_zero]; exact locks_made
    · rintro f1 w1 ⟨k, hkn, g26, hI1⟩
      refine round1 x hx (by omega) hkn hcell hz hI1 g26 (fun f2 hI2 hk => ?_) (fun f2 w2 hk hI2 h26 => ?_)
      · subst hk
        obtain ⟨mo, hP2, g23, g24, g25, hL, hr⟩ := hI2
        show CF _ _ _ _ _ _
        exact tail13 (mo := mo) x hx (by omega) hcell hz hds (sq := (ds % 4).toNat) (by omega) (by omega) (conv_row hv) (conv_row hs) hL (a := a) (c := c) (ds := ds) (kd := kd) (ht := ht) (rd := rd) (fm := fm) (va := va) (vn := vn) (vc := vc) (sa := sa) (sn := sn) (sc := sc) hP2 g24 g25 g23 hr
      · refine ⟨⟨k + 1, by omega, h26, hI2⟩, ?_⟩
        rw [h26, g26]
        simp [intOf]
        omega

end Go.Proofs.Ybulkebfq

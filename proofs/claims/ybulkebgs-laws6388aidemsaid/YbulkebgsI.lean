/-
  LawS6388AIdem: the walk.
-/
import Derived.Test.YbulkebgsU2
namespace Go.Proofs.Ybulkebgs
open Go.RowKit
set_option linter.unusedSimpArgs false
set_option linter.unusedVariables false

theorem Rep.cell {w0 w : World} {os : List Obj} (h : Rep w0 w os) {p : Addr} {v : Value} (hc : w0.cell? p = some v) : w.cell? p = some v := by
  rw [h.below.cell (World.block_lt_of_cell? w0 _ hc)]; exact hc
/-- w is w0 but for new blocks. -/
def Ext (w0 w : World) : Prop := ∃ os, Rep w0 w os
theorem Ext.refl (w : World) : Ext w w := ⟨_, Rep.refl w⟩
theorem Ext.grow {w0 w w' : World} {os : List Obj} (h : Ext w0 w) (h' : Rep w w' os) : Ext w0 w' := by obtain ⟨l, h⟩ := h; exact ⟨_, h.trans h'⟩
theorem Ext.drawn {w0 w : World} (h : Ext w0 w) (d : Nat) : Ext w0 { w with drawn := d } := by obtain ⟨l, h⟩ := h; exact ⟨l, h.drawn d⟩
theorem Ext.below {w0 w : World} (h : Ext w0 w) : Below w0.heap.size w0 w := by obtain ⟨l, h⟩ := h; exact h.below

def lowNums : List Int := [97, 98, 99, 100, 101, 102, 103, 104, 105, 106, 107, 108, 109, 110, 111, 112, 113, 114, 115, 116, 117, 118, 119, 120, 121, 122, 64, 90, 45, 96, 123]
def upNums : List Int := [65, 66, 67, 68, 69, 70, 71, 72, 73, 74, 75, 76, 77, 78, 79, 80, 81, 82, 83, 84, 85, 86, 87, 88, 89, 90, 64, 90, 45, 96, 123]
theorem low_str : (⟨#[97, 98, 99, 100, 101, 102, 103, 104, 105, 106, 107, 108, 109, 110, 111, 112, 113, 114, 115, 116, 117, 118, 119, 120, 121, 122, 64, 90, 45, 96, 123]⟩ : ByteArray) = strOfNums lowNums := by decide
theorem up_str : (⟨#[65, 66, 67, 68, 69, 70, 71, 72, 73, 74, 75, 76, 77, 78, 79, 80, 81, 82, 83, 84, 85, 86, 87, 88, 89, 90, 64, 90, 45, 96, 123]⟩ : ByteArray) = strOfNums upNums := by decide
theorem low_byte : ∀ n ∈ lowNums, 0 ≤ n ∧ n ≤ 255 := by decide
theorem up_byte : ∀ n ∈ upNums, 0 ≤ n ∧ n ≤ 255 := by decide
theorem low_up : ∀ k, k < 31 → upI (lowNums.getD k 0) = upNums.getD k 0 := by decide

/-- Which letter pick i chooses. -/
def pick (zs : List Int) (i : Nat) : Nat := (zs.getD i 0 % 31).toNat
theorem pick_lt (zs : List Int) (i : Nat) : pick zs i < 31 := by unfold pick; omega
theorem pick_int (zs : List Int) (i : Nat) : ((pick zs i : Nat) : Int) = zs.getD i 0 % 31 := by unfold pick; omega
/-- The first row after k rounds, the second. -/
def inF (zs : List Int) (k i : Nat) : Int := if i < k then lowNums.getD (pick zs i) 0 else 0
def wantF (zs : List Int) (k i : Nat) : Int := if i < k then upNums.getD (pick zs i) 0 else 0
theorem step_row (g : Nat → Int) (k : Nat) : (fun i => if i = k then g k else (if i < k then g i else 0)) = fun i => if i < k + 1 then g i else (0 : Int) := by
  funext i
  by_cases e : i = k
  · subst e; rw [if_pos rfl, if_pos (by omega)]
  · rw [if_neg e]
    have : (i < k) = (i < k + 1) := by apply propext; omega
    simp only [this]
theorem in_step (zs : List Int) (k : Nat) : (fun i => if i = k then lowNums.getD (pick zs k) 0 else inF zs k i) = inF zs (k + 1) := step_row (fun i => lowNums.getD (pick zs i) 0) k
theorem want_step (zs : List Int) (k : Nat) : (fun i => if i = k then upNums.getD (pick zs k) 0 else wantF zs k i) = wantF zs (k + 1) := step_row (fun i => upNums.getD (pick zs i) 0) k

set_option maxHeartbeats 1000000 in
theorem roundI {w0 w : World} {a : Option Addr} {n c k : Nat} {zs : List Int} {f : Nat → Value} {Q : Exit → (Nat → Value) → World → Prop} (x : Addr) (ha : 0 < n → a = some x) (hn : n ≤ 1048576) (hkn : k ≤ n)
    (hcell : ∀ i, i < n → w0.cell? (x.add i) = some (.int .u8 (zs.getD i 0))) (hz : ∀ i, i < n → 0 ≤ zs.getD i 0 ∧ zs.getD i 0 ≤ 255)
    (hr : Rep w0 w [.cells (rowF n (inF zs k)) 5, .cells (rowF n (wantF zs k)) 5]) (f3 : f 3 = .slice (some ⟨w0.heap.size, 0, none⟩) n n) (f4 : f 4 = .slice (some ⟨w0.heap.size + 1, 0, none⟩) n n) (f18 : f 18 = .slice a n c) (f19 : f 19 = .int .i64 (n : Int)) (f20 : f 20 = .int .i64 (k : Int))
    (hout : ∀ f', k = n → f' 3 = .slice (some ⟨w0.heap.size, 0, none⟩) n n → f' 4 = .slice (some ⟨w0.heap.size + 1, 0, none⟩) n n → Q (.exit 0) f' w)
    (hnext : ∀ f' w', k < n → Rep w0 w' [.cells (rowF n (inF zs (k + 1))) 5, .cells (rowF n (wantF zs (k + 1))) 5] → f' 3 = .slice (some ⟨w0.heap.size, 0, none⟩) n n → f' 4 = .slice (some ⟨w0.heap.size + 1, 0, none⟩) n n → f' 18 = .slice a n c → f' 19 = .int .i64 (n : Int) → f' 20 = .int .i64 ((k + 1 : Nat) : Int) → Q .normal f' w') :
    CF Yba.prog 50 ((loops (Yba.f4.body.getD .skip)).getD 0 .skip) Q f w := by
  refine CF.seq (CF.region ?_)
  -- region 6
  refine RF.run (.bool (decide ((k : Int) < (n : Int)))) rfl rfl (by decide) (by simp [execOp, ev, upd, eqGuard, f3, f4, f18, f19, f20, go_sem]) ?_
  refine RF.done ?_
  by_cases hk : k < n
  · have ha' := ha (by omega)
    subst ha'
    have hwrap : IntKind.i64.wrap ((k : Int) + 1) = (k : Int) + 1 := IntWalk.i64_in _ (by omega)
    obtain ⟨zk, hzk⟩ : ∃ zk, zk = zs.getD k 0 := ⟨_, rfl⟩
    obtain ⟨p, hp⟩ : ∃ p, p = pick zs k := ⟨_, rfl⟩
    obtain ⟨lk, hlk⟩ : ∃ lk, lk = lowNums.getD (pick zs k) 0 := ⟨_, rfl⟩
    obtain ⟨uk, huk⟩ : ∃ uk, uk = upNums.getD (pick zs k) 0 := ⟨_, rfl⟩
    have hzb := hz k hk
    rw [← hzk] at hzb
    have hzc := hr.cell (hcell k hk)
    rw [← hzk] at hzc
    have hwz : IntKind.i64.wrap zk = zk := IntWalk.i64_in _ (by omega)
    have htm : zk.tmod 31 = (p : Int) := by rw [hp, pick_int, ← hzk]; exact Int.tmod_eq_emod_of_nonneg hzb.1
    have hlow := fun w => index9 w lowNums p .i64 low_byte (by rw [hp]; exact pick_lt zs k)
    have hup := fun w => index9 w upNums p .i64 up_byte (by rw [hp]; exact pick_lt zs k)
    rw [← low_str, hp, ← hlk, ← hp] at hlow
    rw [← up_str, hp, ← huk, ← hp] at hup
    refine CF.seq (CF.condT (by simp [ev, upd, hk]) (CF.skip ?_))
    show CF _ _ _ _ _ _
    refine CF.seq (CF.block (CF.seq (CF.region ?_)))
    -- region 7
    refine RF.move _ (.int .i64 (k : Int)) rfl rfl (by decide) rfl (by simp [ev, upd, f3, f4, f18, f19, f20]) ?_
    refine RF.run (.pointer (some (x.add k))) rfl rfl (by decide) (by simp [execOp, ev, upd, eqGuard, f3, f4, f18, f19, f20, index25x _ x n c k hk]) ?_
    refine RF.run (.int .u8 (zk)) rfl rfl (by decide) (x_loadA 5 _ _ (x.add k) (.int .u8 (zk)) rfl Yba.underlying5 rfl (by simp [ev, upd, f3, f4, f18, f19, f20]) (hzc)) ?_
    refine RF.assign _ (.int .i64 (k : Int)) rfl rfl (by decide) rfl (by simp [ev, upd, f3, f4, f18, f19, f20]) ?_
    refine RF.assign _ (.int .u8 (zk)) rfl rfl (by decide) rfl (by simp [ev, upd, f3, f4, f18, f19, f20]) ?_
    refine RF.done (CF.seq (CF.region ?_))
    -- region 8
    refine RF.move _ (.int .u8 (zk)) rfl rfl (by decide) rfl (by simp [ev, upd, f3, f4, f18, f19, f20]) ?_
    refine RF.run (.int .i64 (zk)) rfl rfl (by decide) (by simp [execOp, ev, upd, eqGuard, f3, f4, f18, f19, f20, go_sem, Yba.underlying5, Yba.underlying3, hwz]) ?_
    refine RF.run (.int .i64 (p : Int)) rfl rfl (by decide) (by simp [execOp, ev, upd, eqGuard, f3, f4, f18, f19, f20, go_sem, htm]) ?_
    refine RF.assign _ (.int .i64 (p : Int)) rfl rfl (by decide) rfl (by simp [ev, upd, f3, f4, f18, f19, f20]) ?_
    refine RF.done (CF.seq (CF.region ?_))
    -- region 9
    refine RF.move _ (.slice (some ⟨w0.heap.size, 0, none⟩) n n) rfl rfl (by decide) rfl (by simp [ev, upd, f3, f4, f18, f19, f20]) ?_
    refine RF.move _ (.int .i64 (k : Int)) rfl rfl (by decide) rfl (by simp [ev, upd, f3, f4, f18, f19, f20]) ?_
    refine RF.move _ (.int .i64 (p : Int)) rfl rfl (by decide) rfl (by simp [ev, upd, f3, f4, f18, f19, f20]) ?_
    refine RF.run (.int .u8 lk) rfl rfl (by decide) (by simp [execOp, ev, upd, eqGuard, f3, f4, f18, f19, f20, hlow]) ?_
    refine RF.run (.pointer (some ⟨w0.heap.size, k, none⟩)) rfl rfl (by decide) (by simp [execOp, ev, upd, eqGuard, f3, f4, f18, f19, f20, index25 _ _ n n k hk]) ?_
    refine RF.store 5 5 _ _ 0 k (rowF n (inF zs k)) (.int .u8 lk) hr rfl (by rw [rowF_size]; exact hk) rfl rfl rfl (by simp [ev, upd, f3, f4, f18, f19, f20]) (by simp [ev, upd, f3, f4, f18, f19, f20]) rfl rfl size5 (fun w1 r1 => ?_)
    refine RF.done (CF.region ?_)
    -- region 10
    refine RF.move _ (.slice (some ⟨w0.heap.size + 1, 0, none⟩) n n) rfl rfl (by decide) rfl (by simp [ev, upd, f3, f4, f18, f19, f20]) ?_
    refine RF.move _ (.int .i64 (k : Int)) rfl rfl (by decide) rfl (by simp [ev, upd, f3, f4, f18, f19, f20]) ?_
    refine RF.move _ (.int .i64 (p : Int)) rfl rfl (by decide) rfl (by simp [ev, upd, f3, f4, f18, f19, f20]) ?_
    refine RF.run (.int .u8 uk) rfl rfl (by decide) (by simp [execOp, ev, upd, eqGuard, f3, f4, f18, f19, f20, hup]) ?_
    refine RF.run (.pointer (some ⟨w0.heap.size + 1, k, none⟩)) rfl rfl (by decide) (by simp [execOp, ev, upd, eqGuard, f3, f4, f18, f19, f20, index25 _ _ n n k hk]) ?_
    refine RF.store 5 5 _ _ 1 k (rowF n (wantF zs k)) (.int .u8 uk) r1 rfl (by rw [rowF_size]; exact hk) rfl rfl rfl (by simp [ev, upd, f3, f4, f18, f19, f20]) (by simp [ev, upd, f3, f4, f18, f19, f20]) rfl rfl size5 (fun w2 r2 => ?_)
    refine RF.nil ?_
    show CF _ _ _ _ _ _
    refine CF.region ?_
    -- region 11
    refine RF.run (.int .i64 ((k + 1 : Nat) : Int)) rfl rfl (by decide) (by simp [execOp, ev, upd, eqGuard, f3, f4, f18, f19, f20, go_sem, hwrap]) ?_
    refine RF.move _ (.int .i64 ((k + 1 : Nat) : Int)) rfl rfl (by decide) rfl (by simp [ev, upd, f3, f4, f18, f19, f20]) ?_
    refine RF.nil ?_
    refine hnext _ w2 hk ?_ (by simp [upd, f3]) (by simp [upd, f4]) (by simp [upd, f18]) (by simp [upd, f19]) (by simp [upd])
    have e1 : rowF n (inF zs (k + 1)) = (rowF n (inF zs k)).setIfInBounds k (.int .u8 lk) := by rw [rowF_set, hlk, in_step]
    have e2 : rowF n (wantF zs (k + 1)) = (rowF n (wantF zs k)).setIfInBounds k (.int .u8 uk) := by rw [rowF_set, huk, want_step]
    rw [e1, e2]
    exact r2
  · refine CF.seq (CF.condF (by simp [ev, upd, hk]) (CF.exit ?_))
    exact hout _ (by omega) (by simp [upd, f3]) (by simp [upd, f4])

/-- A slice of integers that came in: nil, or it leads to a row of 'cap' cells, the numbers 'zs'. -/
def IsRow (k : IntKind) (w : World) (a : Option Addr) (len cap : Nat) (zs : List Int) : Prop :=
  (a = none ∧ len = 0 ∧ cap = 0 ∧ zs = []) ∨
  ∃ x, a = some x ∧ len ≤ cap ∧ cap ≤ maxLen ∧ zs.length = cap ∧ (∀ i, i < zs.length → w.cell? (x.add i) = some (.int k (zs.getD i 0))) ∧ ∀ n ∈ zs, (Lit.int k n).wf = true

set_option maxHeartbeats 1000000 in
/-- THE WALK: LawS6388AIdem returns true and writes nothing that was there. -/
theorem walkI (a : Option Addr) (n c : Nat) (zs : List Int) (w : World) (h0 : IsRow .u8 w a n c zs) : Calls Yba.prog 4 #[.slice a n c] w fun e w' => e = .returned (.bool true) ∧ Below w.heap.size w w' := by
  refine calls_of_CF 50 Yba.func4 rfl rfl (by simp) ?_
  intro f hf
  have f0 : f 0 = .slice a n c := start_at hf 0 (by simp)
  clear hf
  obtain ⟨x, hx, hcell, hz⟩ : ∃ x : Addr, (0 < n → a = some x) ∧ (∀ i, i < n → w.cell? (x.add i) = some (.int .u8 (zs.getD i 0))) ∧ (∀ i, i < n → 0 ≤ zs.getD i 0 ∧ zs.getD i 0 ≤ 255) := by
    rcases h0 with ⟨rfl, rfl, rfl, rfl⟩ | ⟨x, rfl, hlc, _, hzl, hc, hwf⟩
    · exact ⟨⟨0, 0, none⟩, by omega, fun i hi => by omega, fun i hi => by omega⟩
    · refine ⟨x, fun _ => rfl, fun i hi => hc i (by omega), fun i hi => ?_⟩
      have hm : zs.getD i 0 ∈ zs := by
        have hi' : i < zs.length := by omega
        rw [List.getD_eq_getElem?_getD, List.getElem?_eq_getElem hi']
        simp
      have hb := hwf _ hm
      generalize zs.getD i 0 = y at hb ⊢
      simp [Lit.wf, IntKind.min, IntKind.max, IntKind.signed, IntKind.bits] at hb
      omega
  refine CF.seq (CF.region ?_)
  -- region 0
  refine RF.assign _ (.bool false) rfl rfl (by decide) rfl (by simp [ev, upd, f0]) ?_
  refine RF.done (CF.seq (CF.seq (CF.region ?_)))
  -- region 1
  refine RF.move _ (.slice a n c) rfl rfl (by decide) rfl (by simp [ev, upd, f0]) ?_
  refine RF.run (.int .i64 (n : Int)) rfl rfl (by decide) (x_len _ 25 (.slice a n c) _ rfl (by simp [ev, upd, f0]) (len25 _ _ _ _ _)) ?_
  refine RF.run (.bool (decide ((1048576 : Int) < (n : Int)))) rfl rfl (by decide) (by simp [execOp, ev, upd, eqGuard, f0, go_sem]) ?_
  refine RF.done ?_
  by_cases hn : 1048576 < n
  · refine CF.condT (by simp [ev, upd]; omega) ?_
    refine CF.seq (CF.region ?_)
    refine RF.assign _ (.bool true) rfl rfl (by decide) rfl rfl (RF.done ?_)
    refine CF.ret ?_
    rw [then_ret]
    exact endF_tmp rfl ⟨by simp [upd], Below.refl _ _⟩
  · refine CF.condF (by simp [ev, upd]; omega) (CF.skip ?_)
    show CF _ _ _ _ _ _
    refine CF.seq (CF.region ?_)
    have r0 := Rep.refl w
    -- region 3
    refine RF.move _ (.slice a n c) rfl rfl (by decide) rfl (by simp [ev, upd, f0]) ?_
    refine RF.run (.int .i64 (n : Int)) rfl rfl (by decide) (x_len _ 25 (.slice a n c) _ rfl (by simp [ev, upd, f0]) (len25 _ _ _ _ _)) ?_
    refine RF.val (.slice (some ⟨w.heap.size, 0, none⟩) n n) (w.alloc (.cells (madeCells #[.int .u8 0] n) 5)) rfl rfl (by decide) (by simp [execOp, ev, upd, run_make_row' 25 5 (.int .u8 0) 1 Yba.underlying25 info5 rfl .i64 .i64 n (by omega) (by omega), Result.andThen]) ?_
    have r1 := r0.alloc (.cells (madeCells #[.int .u8 0] n) 5)
    generalize w.alloc (.cells (madeCells #[.int .u8 0] n) 5) = w1 at r1 ⊢
    refine RF.assign _ (.slice (some ⟨w.heap.size, 0, none⟩) n n) rfl rfl (by decide) rfl (by simp [ev, upd, f0]) ?_
    refine RF.done (CF.seq (CF.region ?_))
    -- region 4
    refine RF.move _ (.slice a n c) rfl rfl (by decide) rfl (by simp [ev, upd, f0]) ?_
    refine RF.run (.int .i64 (n : Int)) rfl rfl (by decide) (x_len _ 25 (.slice a n c) _ rfl (by simp [ev, upd, f0]) (len25 _ _ _ _ _)) ?_
    refine RF.val (.slice (some ⟨w1.heap.size, 0, none⟩) n n) (w1.alloc (.cells (madeCells #[.int .u8 0] n) 5)) rfl rfl (by decide) (by simp [execOp, ev, upd, run_make_row' 25 5 (.int .u8 0) 1 Yba.underlying25 info5 rfl .i64 .i64 n (by omega) (by omega), Result.andThen]) ?_
    have r2 := r1.alloc (.cells (madeCells #[.int .u8 0] n) 5)
    rw [r1.size]
    generalize w1.alloc (.cells (madeCells #[.int .u8 0] n) 5) = w2 at r2 ⊢
    refine RF.assign _ (.slice (some ⟨w.heap.size + 1, 0, none⟩) n n) rfl rfl (by decide) rfl (by simp [ev, upd, f0]) ?_
    refine RF.done (CF.seq (CF.seq (CF.region ?_)))
    -- region 5
    refine RF.move _ (.slice a n c) rfl rfl (by decide) rfl (by simp [ev, upd, f0]) ?_
    refine RF.run (.int .i64 (n : Int)) rfl rfl (by decide) (x_len _ 25 (.slice a n c) _ rfl (by simp [ev, upd, f0]) (len25 _ _ _ _ _)) ?_
    refine RF.move _ (.int .i64 ((0 : Nat) : Int)) rfl rfl (by decide) rfl rfl ?_
    refine RF.done ?_
    refine CF.block ?_
    refine CF.loop (fun f w3 => ∃ k : Nat, k ≤ n ∧ f 20 = .int .i64 (k : Int) ∧ f 3 = .slice (some ⟨w.heap.size, 0, none⟩) n n ∧ f 4 = .slice (some ⟨w.heap.size + 1, 0, none⟩) n n ∧ f 18 = .slice a n c ∧ f 19 = .int .i64 (n : Int) ∧ Rep w w3 [.cells (rowF n (inF zs k)) 5, .cells (rowF n (wantF zs k)) 5]) (fun f _ => n - (intOf (f 20)).toNat) ?_ ?_
    · refine ⟨0, Nat.zero_le _, by simp [upd], by simp [upd], by simp [upd], by simp [upd, f0], by simp [upd], ?_⟩
      have e1 : rowF n (inF zs 0) = madeCells #[.int .u8 0] n := by rw [rowF_made]; rfl
      have e2 : rowF n (wantF zs 0) = madeCells #[.int .u8 0] n := by rw [rowF_made]; rfl
      rw [e1, e2]
      exact r2
    · rintro g w3 ⟨k, hk, g20, g3, g4, g18, g19, r3⟩
      refine roundI x hx (by omega) hk hcell hz r3 g3 g4 g18 g19 g20 (fun f2 hkn h3 h4 => ?_) (fun f2 w4 hlt r4 h3 h4 h18 h19 h20 => ?_)
      · subst hkn
        have hbi : ∀ m ∈ (List.range k).map (inF zs k), 0 ≤ m ∧ m ≤ 255 := by
          intro m hm
          obtain ⟨i, hi, rfl⟩ := List.mem_map.1 hm
          unfold inF
          split
          · exact getD_byte low_byte _
          · omega
        have hbw : ∀ m ∈ (List.range k).map (wantF zs k), 0 ≤ m ∧ m ≤ 255 := by
          intro m hm
          obtain ⟨i, hi, rfl⟩ := List.mem_map.1 hm
          unfold wantF
          split
          · exact getD_byte up_byte _
          · omega
        have hupin : ((List.range k).map (inF zs k)).map upI = (List.range k).map (wantF zs k) := by
          rw [List.map_map]
          refine List.map_congr_left fun i hi => ?_
          have := List.mem_range.1 hi
          simp only [Function.comp_def, inF, wantF, if_pos this]
          exact low_up _ (pick_lt zs i)
        have hupw : ((List.range k).map (wantF zs k)).map upI = (List.range k).map (wantF zs k) := by
          rw [← hupin, List.map_map, List.map_map, List.map_map]
          refine List.map_congr_left fun i hi => ?_
          simp only [Function.comp_def, upI_idem]
        have hin : (convert 25 9 (.slice (some ⟨w.heap.size, 0, none⟩) k k)).run Yba.prog w3 = .ok (.string (strOfNums ((List.range k).map (inF zs k)))) w3 := conv25 w3 w.heap.size k k (inF zs k) 5 (0, 0) (r3.block (i := 0) rfl) (Nat.le_refl _)
        have hwant : ∀ {w' : World} {l : List Obj}, Rep w w' ([.cells (rowF k (inF zs k)) 5, .cells (rowF k (wantF zs k)) 5] ++ l) → (convert 25 9 (.slice (some ⟨w.heap.size + 1, 0, none⟩) k k)).run Yba.prog w' = .ok (.string (strOfNums ((List.range k).map (wantF zs k)))) w' := fun h => conv25 _ (w.heap.size + 1) k k (wantF zs k) 5 (0, 0) (h.block (i := 1) rfl) (Nat.le_refl _)
        show CF _ _ _ _ _ _
        refine CF.seq (CF.region ?_)
        -- region 12
        refine RF.move _ (.slice (some ⟨w.heap.size, 0, none⟩) k k) rfl rfl (by decide) rfl (by simp [ev, upd, h3, h4]) ?_
        refine RF.run (.string (strOfNums ((List.range k).map (inF zs k)))) rfl rfl (by decide) (by simp [execOp, ev, upd, eqGuard, h3, h4, hin]) ?_
        refine RF.call 6 #[.string (strOfNums ((List.range k).map (inF zs k)))] rfl rfl (by decide) (x_call 6 _ _ _ _ rfl Yba.func6 (by kernel_rfl) rfl (by simp [ev, upd, h3, h4]) rfl) (upper_any _ _ (by rw [strOfNums_size]; simp; omega)) (fun v w4 hv => ?_)
        obtain ⟨rfl, o4, r4⟩ := hv
        rw [nums_str hbi, hupin]
        have hX4 := r3.trans r4
        refine RF.assign _ (.string (strOfNums ((List.range k).map (wantF zs k)))) rfl rfl (by decide) rfl (by simp [ev, upd, h3, h4]) ?_
        refine RF.done (CF.seq (CF.seq (CF.region ?_)))
        -- region 13
        refine RF.move _ (.string (strOfNums ((List.range k).map (wantF zs k)))) rfl rfl (by decide) rfl (by simp [ev, upd, h3, h4]) ?_
        refine RF.move _ (.slice (some ⟨w.heap.size + 1, 0, none⟩) k k) rfl rfl (by decide) rfl (by simp [ev, upd, h3, h4]) ?_
        refine RF.run (.string (strOfNums ((List.range k).map (wantF zs k)))) rfl rfl (by decide) (by simp [execOp, ev, upd, eqGuard, h3, h4, hwant hX4]) ?_
        refine RF.run (.bool false) rfl rfl (by decide) (by simp [execOp, ev, upd, eqGuard, h3, h4, go_sem, Op.stringOp]) ?_
        refine RF.done (CF.condF (by simp [ev, upd]) (CF.skip ?_))
        show CF _ _ _ _ _ _
        refine CF.seq (CF.region ?_)
        -- region 15
        refine RF.move _ (.string (strOfNums ((List.range k).map (wantF zs k)))) rfl rfl (by decide) rfl (by simp [ev, upd, h3, h4]) ?_
        refine RF.call 6 #[.string (strOfNums ((List.range k).map (wantF zs k)))] rfl rfl (by decide) (x_call 6 _ _ _ _ rfl Yba.func6 (by kernel_rfl) rfl (by simp [ev, upd, h3, h4]) rfl) (upper_any _ _ (by rw [strOfNums_size]; simp; omega)) (fun v w5 hv => ?_)
        obtain ⟨rfl, o5, r5⟩ := hv
        rw [nums_str hbw, hupw]
        refine RF.move _ (.string (strOfNums ((List.range k).map (wantF zs k)))) rfl rfl (by decide) rfl (by simp [ev, upd, h3, h4]) ?_
        refine RF.run (.bool true) rfl rfl (by decide) (by simp [execOp, ev, upd, eqGuard, h3, h4, go_sem, Op.stringOp]) ?_
        refine RF.assign _ (.bool true) rfl rfl (by decide) rfl (by simp [ev, upd, h3, h4]) ?_
        refine RF.done (CF.ret ?_)
        exact endF_tmp rfl ⟨by simp [upd], (hX4.trans r5).below⟩
      · refine ⟨⟨k + 1, by omega, h20, h3, h4, h18, h19, r4⟩, ?_⟩
        rw [h20, g20]
        simp [intOf]
        omega

end Go.Proofs.Ybulkebgs

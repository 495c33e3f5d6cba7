/-
  LawS6388AWhole: the walk.
-/
import Derived.Test.YbulkebgsU2
namespace Go.Proofs.Ybulkebgs
open Go.RowKit
set_option linter.unusedSimpArgs false
set_option linter.unusedVariables false

theorem Rep.cell {w0 w : World} {os : List Obj} (h : Rep w0 w os) {p : Addr} {v : Value} (hc : w0.cell? p = some v) : w.cell? p = some v := by
  rw [h.below.cell (World.block_lt_of_cell? w0 _ hc)]; exact hc
/-- w is w0 but for new blocks. -/
def Ext (w0 w : World) : Prop := ∃ os, Rep w0 w os
theorem Ext.refl (w : World) : Ext w w := ⟨_, Rep.refl w⟩
theorem Ext.grow {w0 w w' : World} {os : List Obj} (h : Ext w0 w) (h' : Rep w w' os) : Ext w0 w' := by obtain ⟨l, h⟩ := h; exact ⟨_, h.trans h'⟩
theorem Ext.drawn {w0 w : World} (h : Ext w0 w) (d : Nat) : Ext w0 { w with drawn := d } := by obtain ⟨l, h⟩ := h; exact ⟨l, h.drawn d⟩
theorem Ext.below {w0 w : World} (h : Ext w0 w) : Below w0.heap.size w0 w := by obtain ⟨l, h⟩ := h; exact h.below

set_option maxHeartbeats 1000000 in
theorem roundW {w0 w : World} {k : Nat} {zs : List Int} {f : Nat → Value} {Q : Exit → (Nat → Value) → World → Prop} (hb : ∀ n ∈ zs, 0 ≤ n ∧ n ≤ 255) (hn : zs.length ≤ 1048576) (hkn : k ≤ zs.length) (hX : Ext w0 w)
    (f0 : f 0 = .string (strOfNums zs)) (f3 : f 3 = .string (strOfNums (zs.map upI))) (f4 : f 4 = .int .i64 (k : Int))
    (hout : ∀ f' w', Ext w0 w' → Q (.exit 0) f' w')
    (hnext : ∀ f' w', k < zs.length → Ext w0 w' → f' 0 = .string (strOfNums zs) → f' 3 = .string (strOfNums (zs.map upI)) → f' 4 = .int .i64 ((k + 1 : Nat) : Int) → Q .normal f' w') :
    CF Yba.prog 29 ((loops (Yba.f3.body.getD .skip)).getD 0 .skip) Q f w := by
  refine CF.seq (CF.seq (CF.region ?_))
  -- region 7
  refine RF.move _ (.int .i64 (k : Int)) rfl rfl (by decide) rfl (by simp [ev, upd, f0, f3, f4]) ?_
  refine RF.move _ (.string (strOfNums zs)) rfl rfl (by decide) rfl (by simp [ev, upd, f0, f3, f4]) ?_
  refine RF.run (.int .i64 (zs.length : Int)) rfl rfl (by decide) (x_len _ 9 (.string (strOfNums zs)) _ rfl (by simp [ev, upd, f0, f3, f4]) (by rw [len9, strOfNums_size])) ?_
  refine RF.run (.bool (decide ((k : Int) < (zs.length : Int)))) rfl rfl (by decide) (by simp [execOp, ev, upd, eqGuard, f0, f3, f4, go_sem]) ?_
  refine RF.done ?_
  by_cases hk : k < zs.length
  · have hwrap : IntKind.i64.wrap ((k : Int) + 1) = (k : Int) + 1 := IntWalk.i64_in _ (by omega)
    obtain ⟨zk, hzk⟩ : ∃ zk, zk = zs.getD k 0 := ⟨_, rfl⟩
    have hzb := getD_byte hb k
    rw [← hzk] at hzb
    have hub : ∀ n ∈ zs.map upI, 0 ≤ n ∧ n ≤ 255 := by
      intro n hn
      obtain ⟨m, hm, rfl⟩ := List.mem_map.1 hn
      exact upI_byte (hb m hm)
    have hs := fun w => index9 w zs k .i64 hb hk
    rw [← hzk] at hs
    have hg := fun w => index9 w (zs.map upI) k .i64 hub (by rw [List.length_map]; exact hk)
    have e : (zs.map upI).getD k 0 = upI zk := by rw [hzk]; simp [List.getD, List.getElem?_eq_getElem hk]
    rw [e] at hg
    refine CF.condT (by simp [ev, upd, hk]) (CF.skip ?_)
    show CF _ _ _ _ _ _
    refine CF.seq (CF.block (CF.seq (CF.quiet (fun w' => Ext w0 w') (by kernel_rfl) (by kernel_rfl) (hX.drawn _) ?_)))
    -- region 9
    refine QF.move _ (.string (strOfNums (zs.map upI))) rfl rfl (by decide) rfl (by simp [ev, upd, f0, f3, f4]) ?_
    refine QF.move _ (.int .i64 (k : Int)) rfl rfl (by decide) rfl (by simp [ev, upd, f0, f3, f4]) ?_
    refine QF.val (.int .u8 (upI zk)) rfl rfl (by decide) (fun w hw => (by simp [execOp, ev, upd, eqGuard, f0, f3, f4, hg])) ?_
    refine QF.move _ (.string (strOfNums zs)) rfl rfl (by decide) rfl (by simp [ev, upd, f0, f3, f4]) ?_
    refine QF.move _ (.int .i64 (k : Int)) rfl rfl (by decide) rfl (by simp [ev, upd, f0, f3, f4]) ?_
    refine QF.val (.int .u8 zk) rfl rfl (by decide) (fun w hw => (by simp [execOp, ev, upd, eqGuard, f0, f3, f4, hs])) ?_
    refine QF.call 7 #[.int .u8 zk] (.int .u8 (upI zk)) rfl rfl (by decide) (fun w hw => x_call 7 _ _ _ _ rfl Yba.func7 (by kernel_rfl) rfl (by simp [ev, upd, f0, f3, f4]) rfl) (fun w hw => (aup_any zk w hzb).mono (fun e w' ⟨v, he, hv, hr'⟩ => ⟨by rw [he, hv], by rw [hr']; exact hw⟩)) ?_
    refine QF.val (.bool false) rfl rfl (by decide) (fun w hw => (by simp [execOp, ev, upd, eqGuard, f0, f3, f4, go_sem])) ?_
    refine QF.nil fun w1 hX1 => ?_
    show CF _ _ _ _ _ _
    refine CF.condF (by simp [ev, upd]) (CF.skip ?_)
    show CF _ _ _ _ _ _
    refine CF.region ?_
    -- region 8
    refine RF.move _ (.int .i64 (k : Int)) rfl rfl (by decide) rfl (by simp [ev, upd, f0, f3, f4]) ?_
    refine RF.run (.int .i64 ((k + 1 : Nat) : Int)) rfl rfl (by decide) (by simp [execOp, ev, upd, eqGuard, f0, f3, f4, go_sem, hwrap]) ?_
    refine RF.assign _ (.int .i64 ((k + 1 : Nat) : Int)) rfl rfl (by decide) rfl (by simp [ev, upd, f0, f3, f4]) ?_
    refine RF.nil ?_
    exact hnext _ w1 hk hX1 (by simp [upd, f0]) (by simp [upd, f3]) (by simp [upd])
  · refine CF.condF (by simp [ev, upd, hk]) (CF.exit ?_)
    exact hout _ _ hX

set_option maxHeartbeats 1000000 in
/-- THE WALK: LawS6388AWhole returns true and writes nothing that was there. -/
theorem walkW (s : ByteArray) (w : World) : Calls Yba.prog 3 #[.string s] w fun e w' => e = .returned (.bool true) ∧ Below w.heap.size w w' := by
  obtain ⟨zs, hzs⟩ : ∃ zs, zs = nums s := ⟨_, rfl⟩
  have hb : ∀ n ∈ zs, 0 ≤ n ∧ n ≤ 255 := by rw [hzs]; exact nums_byte s
  have hss : s = strOfNums zs := by rw [hzs, str_nums]
  subst hss
  clear hzs
  refine calls_of_CF 29 Yba.func3 rfl rfl (by simp) ?_
  intro f hf
  have f0 : f 0 = .string (strOfNums zs) := start_at hf 0 (by simp)
  clear hf
  refine CF.seq (CF.region ?_)
  -- region 0
  refine RF.assign _ (.bool false) rfl rfl (by decide) rfl (by simp [ev, upd, f0]) ?_
  refine RF.done (CF.seq (CF.seq (CF.region ?_)))
  -- region 1
  refine RF.move _ (.string (strOfNums zs)) rfl rfl (by decide) rfl (by simp [ev, upd, f0]) ?_
  refine RF.run (.int .i64 (zs.length : Int)) rfl rfl (by decide) (x_len _ 9 (.string (strOfNums zs)) _ rfl (by simp [ev, upd, f0]) (by rw [len9, strOfNums_size])) ?_
  refine RF.run (.bool (decide ((1048576 : Int) < (zs.length : Int)))) rfl rfl (by decide) (by simp [execOp, ev, upd, eqGuard, f0, go_sem]) ?_
  refine RF.done ?_
  by_cases hn : 1048576 < zs.length
  · refine CF.condT (by simp [ev, upd]; omega) ?_
    refine CF.seq (CF.region ?_)
    refine RF.assign _ (.bool true) rfl rfl (by decide) rfl rfl (RF.done ?_)
    refine CF.ret ?_
    rw [then_ret]
    exact endF_tmp rfl ⟨by simp [upd], Below.refl _ _⟩
  · refine CF.condF (by simp [ev, upd]; omega) (CF.skip ?_)
    show CF _ _ _ _ _ _
    refine CF.seq (CF.region ?_)
    -- region 3
    refine RF.move _ (.string (strOfNums zs)) rfl rfl (by decide) rfl (by simp [ev, upd, f0]) ?_
    refine RF.call 6 #[.string (strOfNums zs)] rfl rfl (by decide) (x_call 6 _ _ _ _ rfl Yba.func6 (by kernel_rfl) rfl (by simp [ev, upd, f0]) rfl) (upper_any _ _ (by rw [strOfNums_size]; omega)) (fun v w1 hv => ?_)
    obtain ⟨rfl, o, r1⟩ := hv
    rw [nums_str hb]
    refine RF.assign _ (.string (strOfNums (zs.map upI))) rfl rfl (by decide) rfl (by simp [ev, upd, f0]) ?_
    refine RF.done (CF.seq (CF.seq (CF.region ?_)))
    -- region 4
    refine RF.move _ (.string (strOfNums (zs.map upI))) rfl rfl (by decide) rfl (by simp [ev, upd, f0]) ?_
    refine RF.run (.int .i64 (zs.length : Int)) rfl rfl (by decide) (x_len _ 9 (.string (strOfNums (zs.map upI))) _ rfl (by simp [ev, upd, f0]) (by rw [len9, strOfNums_size, List.length_map])) ?_
    refine RF.move _ (.string (strOfNums zs)) rfl rfl (by decide) rfl (by simp [ev, upd, f0]) ?_
    refine RF.run (.int .i64 (zs.length : Int)) rfl rfl (by decide) (x_len _ 9 (.string (strOfNums zs)) _ rfl (by simp [ev, upd, f0]) (by rw [len9, strOfNums_size])) ?_
    refine RF.run (.bool false) rfl rfl (by decide) (by simp [execOp, ev, upd, eqGuard, f0, go_sem]) ?_
    refine RF.done (CF.condF (by simp [ev, upd]) (CF.skip ?_))
    show CF _ _ _ _ _ _
    refine CF.seq (CF.seq (CF.region ?_))
    refine RF.assign _ (.int .i64 ((0 : Nat) : Int)) rfl rfl (by decide) rfl rfl (RF.done ?_)
    refine CF.block ?_
    refine CF.loop (fun f w1 => ∃ k : Nat, k ≤ zs.length ∧ f 4 = .int .i64 (k : Int) ∧ f 0 = .string (strOfNums zs) ∧ f 3 = .string (strOfNums (zs.map upI)) ∧ Ext w w1) (fun f _ => zs.length - (intOf (f 4)).toNat) ?_ ?_
    · exact ⟨0, Nat.zero_le _, by simp [upd], by simp [upd, f0], by simp [upd], (Ext.refl w).grow r1⟩
    · rintro g w2 ⟨k, hk, g4, g0, g3, hX⟩
      refine roundW hb (by omega) hk hX g0 g3 g4 (fun f2 w3 hX3 => ?_) (fun f2 w3 hlt hX3 h0 h3 h4 => ?_)
      · show CF _ _ _ _ _ _
        refine CF.seq (CF.region ?_)
        refine RF.assign _ (.bool true) rfl rfl (by decide) rfl rfl (RF.done ?_)
        refine CF.ret ?_
        exact endF_tmp rfl ⟨by simp [upd], hX3.below⟩
      · refine ⟨⟨k + 1, by omega, h4, h0, h3, hX3⟩, ?_⟩
        rw [h4, g4]
        simp [intOf]
        omega

end Go.Proofs.Ybulkebgs

/-
  LawS6386AWhole: the walk whole.
-/
import Derived.Test.YbulkebfqA2
namespace Go.Proofs.Ybulkebfq
open Go.RowKit
set_option linter.unusedSimpArgs false
set_option linter.unusedVariables false

section
variable {w0 w : World} {a ca : Option Addr} {m c0 : Nat} {z : Nat → Int} {x : Addr} {os : List Obj} {f : Nat → Value}

set_option maxHeartbeats 1000000 in
theorem tailA49 {I k : Nat} (hR : Rows2 w0 a ca m z x os) (hX : RepX w0 w os) (hI : os[I]? = some (.cells #[.slice (if m = k then ca else ca.map (·.add k)) (m - k) (m - k), .nilIface] 29)) (hk : k ≤ m) (hG : Good w0.heap.size I k m c0 a ca f) :
    CF Yba.prog 179 (tailFrom 49 (Yba.f3.body.getD .skip)) (endF Yba.prog Yba.f3 fun e w' => e = .returned (.bool true) ∧ Below w0.heap.size w0 w') f w := by
  obtain ⟨f0, f7, f9, f10, f12⟩ := id hG
  have hm := hR.hm
  by_cases hlt : k < m
  · have hc := hR.cx (by omega)
    subst hc
    have hmk : ¬ m = k := by omega
    have hI2 : os[I]? = some (.cells #[.slice (some ((⟨w0.heap.size, 0, none⟩ : Addr).add k)) (m - k) (m - k), .nilIface] 29) := by rw [hI, if_neg hmk]; rfl
    refine CF.seq (CF.seq (CF.quiet (fun w' => RepX w0 w' os) (by kernel_rfl) (by kernel_rfl) (hX.drawn _) ?_))
    -- region 49
    refine QF.move _ (.pointer (some ⟨w0.heap.size + I, 0, none⟩)) rfl rfl (by decide) rfl (by simp [ev, upd, f0, f7, f9, f10, f12]) ?_
    refine QF.val (.pointer (some ⟨w0.heap.size + I, 0, none⟩)) rfl rfl (by decide) (fun w hw => (by simp [execOp, ev, upd, eqGuard, f0, f7, f9, f10, f12])) ?_
    refine QF.val (.pointer (some ⟨w0.heap.size + I, 0, none⟩)) rfl rfl (by decide) (fun w hw => (by simp [execOp, ev, upd, eqGuard, f0, f7, f9, f10, f12, field29_0])) ?_
    refine QF.val (.slice (some ((⟨w0.heap.size, 0, none⟩ : Addr).add k)) (m - k) (m - k)) rfl rfl (by decide) (fun w hw => (x_loadA 22 _ _ (⟨w0.heap.size + I, 0, none⟩) (.slice (some ((⟨w0.heap.size, 0, none⟩ : Addr).add k)) (m - k) (m - k)) rfl Yba.underlying22 rfl (by simp [ev, upd, f0, f7, f9, f10, f12]) (cell_at (RepX.block hw hI2) rfl))) ?_
    refine QF.val (.int .i64 ((m - k : Nat) : Int)) rfl rfl (by decide) (fun w hw => (x_len _ 22 (.slice (some ((⟨w0.heap.size, 0, none⟩ : Addr).add k)) (m - k) (m - k)) _ rfl (by simp [ev, upd, f0, f7, f9, f10, f12]) (len22 _ _ _ _ _))) ?_
    refine QF.val (.bool true) rfl rfl (by decide) (fun w hw => (by simp [execOp, ev, upd, go_sem]; omega)) ?_
    refine QF.move _ (.bool true) rfl rfl (by decide) rfl (by simp [ev, upd, f0, f7, f9, f10, f12]) ?_
    refine QF.valG (.pointer (some ⟨w0.heap.size + I, 0, none⟩)) (t := 168) rfl rfl (by decide) (by simp [ev, upd, f0, f7, f9, f10, f12]) rfl (by decide) (fun w _ => (by simp [execOp, ev, upd, f0, f7, f9, f10, f12])) ?_
    refine QF.valG (.pointer (some ⟨w0.heap.size + I, 0, none⟩)) (t := 168) rfl rfl (by decide) (by simp [ev, upd, f0, f7, f9, f10, f12]) rfl (by decide) (fun w hw => (by simp [execOp, ev, upd, eqGuard, f0, f7, f9, f10, f12])) ?_
    refine QF.valG (.pointer (some ⟨w0.heap.size + I, 0, none⟩)) (t := 168) rfl rfl (by decide) (by simp [ev, upd, f0, f7, f9, f10, f12]) rfl (by decide) (fun w hw => (by simp [execOp, ev, upd, eqGuard, f0, f7, f9, f10, f12, field29_0])) ?_
    refine QF.valG (.slice (some ((⟨w0.heap.size, 0, none⟩ : Addr).add k)) (m - k) (m - k)) (t := 168) rfl rfl (by decide) (by simp [ev, upd, f0, f7, f9, f10, f12]) rfl (by decide) (fun w hw => (x_loadA 22 _ _ (⟨w0.heap.size + I, 0, none⟩) (.slice (some ((⟨w0.heap.size, 0, none⟩ : Addr).add k)) (m - k) (m - k)) rfl Yba.underlying22 rfl (by simp [ev, upd, f0, f7, f9, f10, f12]) (cell_at (RepX.block hw hI2) rfl))) ?_
    refine QF.valG (.pointer (some ((⟨w0.heap.size, 0, none⟩ : Addr).add k))) (t := 168) rfl rfl (by decide) (by simp [ev, upd, f0, f7, f9, f10, f12]) rfl (by decide) (fun w hw => (by simp [execOp, ev, upd, eqGuard, f0, f7, f9, f10, f12, index22_0 _ _ (m - k) (m - k) (by omega)])) ?_
    refine QF.valG (.slice (some ⟨w0.heap.size, 0, none⟩) m m) (t := 168) rfl rfl (by decide) (by simp [ev, upd, f0, f7, f9, f10, f12]) rfl (by decide) (fun w _ => (by simp [execOp, ev, upd, f0, f7, f9, f10, f12])) ?_
    refine QF.valG (.int .i64 (k : Int)) (t := 168) rfl rfl (by decide) (by simp [ev, upd, f0, f7, f9, f10, f12]) rfl (by decide) (fun w _ => (by simp [execOp, ev, upd, f0, f7, f9, f10, f12])) ?_
    refine QF.valG (.pointer (some ((⟨w0.heap.size, 0, none⟩ : Addr).add k))) (t := 168) rfl rfl (by decide) (by simp [ev, upd, f0, f7, f9, f10, f12]) rfl (by decide) (fun w hw => (by simp [execOp, ev, upd, eqGuard, f0, f7, f9, f10, f12, index22 _ _ m m k (by omega)])) ?_
    refine QF.valG (.bool false) (t := 168) rfl rfl (by decide) (by simp [ev, upd, f0, f7, f9, f10, f12]) rfl (by decide) (fun w hw => (by simp [execOp, ev, upd, eqGuard, f0, f7, f9, f10, f12, neq32_same])) ?_
    refine QF.val (.bool false) rfl rfl (by decide) (fun w hw => (by simp [execOp, ev, upd, eqGuard, f0, f7, f9, f10, f12, asBool])) ?_
    refine QF.nil fun w1 hX1 => ?_
    show CF _ _ _ _ _ _
    refine CF.condF (by simp [ev, upd]) (CF.skip ?_)
    show CF _ _ _ _ _ _
    refine CF.seq (CF.region ?_)
    -- region 51
    refine RF.assign _ (.bool true) rfl rfl (by decide) rfl (by simp [ev, upd, f0, f7, f9, f10, f12]) ?_
    refine RF.done (CF.ret ?_)
    exact endF_tmp rfl ⟨by simp [upd], hX1.below⟩
  · have hmk : k = m := by omega
    subst hmk
    have hI2 : os[I]? = some (.cells #[.slice ca 0 0, .nilIface] 29) := by rw [hI, if_pos rfl, Nat.sub_self]
    refine CF.seq (CF.seq (CF.quiet (fun w' => RepX w0 w' os) (by kernel_rfl) (by kernel_rfl) (hX.drawn _) ?_))
    -- region 49
    refine QF.move _ (.pointer (some ⟨w0.heap.size + I, 0, none⟩)) rfl rfl (by decide) rfl (by simp [ev, upd, f0, f7, f9, f10, f12]) ?_
    refine QF.val (.pointer (some ⟨w0.heap.size + I, 0, none⟩)) rfl rfl (by decide) (fun w hw => (by simp [execOp, ev, upd, eqGuard, f0, f7, f9, f10, f12])) ?_
    refine QF.val (.pointer (some ⟨w0.heap.size + I, 0, none⟩)) rfl rfl (by decide) (fun w hw => (by simp [execOp, ev, upd, eqGuard, f0, f7, f9, f10, f12, field29_0])) ?_
    refine QF.val (.slice ca 0 0) rfl rfl (by decide) (fun w hw => (x_loadA 22 _ _ (⟨w0.heap.size + I, 0, none⟩) (.slice ca 0 0) rfl Yba.underlying22 rfl (by simp [ev, upd, f0, f7, f9, f10, f12]) (cell_at (RepX.block hw hI2) rfl))) ?_
    refine QF.val (.int .i64 0) rfl rfl (by decide) (fun w hw => (x_len _ 22 (.slice ca 0 0) _ rfl (by simp [ev, upd]) (len22 _ _ _ _ _))) ?_
    refine QF.val (.bool false) rfl rfl (by decide) (fun w hw => (by simp [execOp, ev, upd, eqGuard, f0, f7, f9, f10, f12, go_sem])) ?_
    refine QF.move _ (.bool false) rfl rfl (by decide) rfl (by simp [ev, upd, f0, f7, f9, f10, f12]) ?_
    refine QF.skipG (t := 168) rfl rfl (by decide) (by simp [ev, upd, f0, f7, f9, f10, f12]) rfl (by decide) ?_
    refine QF.skipG (t := 168) rfl rfl (by decide) (by simp [ev, upd, f0, f7, f9, f10, f12]) rfl (by decide) ?_
    refine QF.skipG (t := 168) rfl rfl (by decide) (by simp [ev, upd, f0, f7, f9, f10, f12]) rfl (by decide) ?_
    refine QF.skipG (t := 168) rfl rfl (by decide) (by simp [ev, upd, f0, f7, f9, f10, f12]) rfl (by decide) ?_
    refine QF.skipG (t := 168) rfl rfl (by decide) (by simp [ev, upd, f0, f7, f9, f10, f12]) rfl (by decide) ?_
    refine QF.skipG (t := 168) rfl rfl (by decide) (by simp [ev, upd, f0, f7, f9, f10, f12]) rfl (by decide) ?_
    refine QF.skipG (t := 168) rfl rfl (by decide) (by simp [ev, upd, f0, f7, f9, f10, f12]) rfl (by decide) ?_
    refine QF.skipG (t := 168) rfl rfl (by decide) (by simp [ev, upd, f0, f7, f9, f10, f12]) rfl (by decide) ?_
    refine QF.skipG (t := 168) rfl rfl (by decide) (by simp [ev, upd, f0, f7, f9, f10, f12]) rfl (by decide) ?_
    refine QF.val (.bool false) rfl rfl (by decide) (fun w hw => (by simp [execOp, ev, upd, eqGuard, f0, f7, f9, f10, f12, asBool])) ?_
    refine QF.nil fun w1 hX1 => ?_
    show CF _ _ _ _ _ _
    refine CF.condF (by simp [ev, upd]) (CF.skip ?_)
    show CF _ _ _ _ _ _
    refine CF.seq (CF.region ?_)
    -- region 51
    refine RF.assign _ (.bool true) rfl rfl (by decide) rfl (by simp [ev, upd, f0, f7, f9, f10, f12]) ?_
    refine RF.done (CF.ret ?_)
    exact endF_tmp rfl ⟨by simp [upd], hX1.below⟩

set_option maxHeartbeats 1000000 in
theorem tailA47 {I k : Nat} (hR : Rows2 w0 a ca m z x os) (hX : RepX w0 w os) (hI : os[I]? = some (.cells #[.slice (if m = k then ca else ca.map (·.add k)) (m - k) (m - k), .nilIface] 29)) (hk : k ≤ m) (hG : Good w0.heap.size I k m c0 a ca f) :
    CF Yba.prog 179 (tailFrom 47 (Yba.f3.body.getD .skip)) (endF Yba.prog Yba.f3 fun e w' => e = .returned (.bool true) ∧ Below w0.heap.size w0 w') f w := by
  obtain ⟨f0, f7, f9, f10, f12⟩ := id hG
  have hm := hR.hm
  by_cases h0 : 0 < k
  · have hc := hR.cx (by omega)
    subst hc
    refine CF.seq (CF.seq (CF.quiet (fun w' => RepX w0 w' os) (by kernel_rfl) (by kernel_rfl) (hX.drawn _) ?_))
    -- region 47
    refine QF.move _ (.int .i64 (k : Int)) rfl rfl (by decide) rfl (by simp [ev, upd, f0, f7, f9, f10, f12]) ?_
    refine QF.val (.bool true) rfl rfl (by decide) (fun w hw => (by simp [execOp, ev, upd, eqGuard, f0, f7, f9, f10, f12, go_sem, h0])) ?_
    refine QF.move _ (.bool true) rfl rfl (by decide) rfl (by simp [ev, upd, f0, f7, f9, f10, f12]) ?_
    refine QF.valG (.slice (some ⟨w0.heap.size, 0, none⟩) k k) (t := 155) rfl rfl (by decide) (by simp [ev, upd, f0, f7, f9, f10, f12]) rfl (by decide) (fun w _ => (by simp [execOp, ev, upd, f0, f7, f9, f10, f12])) ?_
    refine QF.valG (.pointer (some ⟨w0.heap.size, 0, none⟩)) (t := 155) rfl rfl (by decide) (by simp [ev, upd, f0, f7, f9, f10, f12]) rfl (by decide) (fun w hw => (by simp [execOp, ev, upd, eqGuard, f0, f7, f9, f10, f12, index22_0 _ _ k k h0])) ?_
    refine QF.valG (.slice (some ⟨w0.heap.size, 0, none⟩) m m) (t := 155) rfl rfl (by decide) (by simp [ev, upd, f0, f7, f9, f10, f12]) rfl (by decide) (fun w _ => (by simp [execOp, ev, upd, f0, f7, f9, f10, f12])) ?_
    refine QF.valG (.pointer (some ⟨w0.heap.size, 0, none⟩)) (t := 155) rfl rfl (by decide) (by simp [ev, upd, f0, f7, f9, f10, f12]) rfl (by decide) (fun w hw => (by simp [execOp, ev, upd, eqGuard, f0, f7, f9, f10, f12, index22_0 _ _ m m (by omega)])) ?_
    refine QF.valG (.bool false) (t := 155) rfl rfl (by decide) (by simp [ev, upd, f0, f7, f9, f10, f12]) rfl (by decide) (fun w hw => (by simp [execOp, ev, upd, eqGuard, f0, f7, f9, f10, f12, neq32_same])) ?_
    refine QF.val (.bool false) rfl rfl (by decide) (fun w hw => (by simp [execOp, ev, upd, eqGuard, f0, f7, f9, f10, f12, asBool])) ?_
    refine QF.nil fun w1 hX1 => ?_
    show CF _ _ _ _ _ _
    refine CF.condF (by simp [ev, upd]) (CF.skip ?_)
    show CF _ _ _ _ _ _
    exact tailA49 (c0 := c0) hR hX1 hI hk ⟨by simp [upd, f0], by simp [upd, f7], by simp [upd, f9], by simp [upd, f10], by simp [upd, f12]⟩
  · have hk0 : k = 0 := by omega
    subst hk0
    refine CF.seq (CF.seq (CF.quiet (fun w' => RepX w0 w' os) (by kernel_rfl) (by kernel_rfl) (hX.drawn _) ?_))
    -- region 47
    refine QF.move _ (.int .i64 ((0 : Nat) : Int)) rfl rfl (by decide) rfl (by simp [ev, upd, f0, f7, f9, f10, f12]) ?_
    refine QF.val (.bool false) rfl rfl (by decide) (fun w hw => (by simp [execOp, ev, upd, eqGuard, f0, f7, f9, f10, f12, go_sem])) ?_
    refine QF.move _ (.bool false) rfl rfl (by decide) rfl (by simp [ev, upd, f0, f7, f9, f10, f12]) ?_
    refine QF.skipG (t := 155) rfl rfl (by decide) (by simp [ev, upd, f0, f7, f9, f10, f12]) rfl (by decide) ?_
    refine QF.skipG (t := 155) rfl rfl (by decide) (by simp [ev, upd, f0, f7, f9, f10, f12]) rfl (by decide) ?_
    refine QF.skipG (t := 155) rfl rfl (by decide) (by simp [ev, upd, f0, f7, f9, f10, f12]) rfl (by decide) ?_
    refine QF.skipG (t := 155) rfl rfl (by decide) (by simp [ev, upd, f0, f7, f9, f10, f12]) rfl (by decide) ?_
    refine QF.skipG (t := 155) rfl rfl (by decide) (by simp [ev, upd, f0, f7, f9, f10, f12]) rfl (by decide) ?_
    refine QF.val (.bool false) rfl rfl (by decide) (fun w hw => (by simp [execOp, ev, upd, eqGuard, f0, f7, f9, f10, f12, asBool])) ?_
    refine QF.nil fun w1 hX1 => ?_
    show CF _ _ _ _ _ _
    refine CF.condF (by simp [ev, upd]) (CF.skip ?_)
    show CF _ _ _ _ _ _
    exact tailA49 (c0 := c0) hR hX1 hI hk ⟨by simp [upd, f0], by simp [upd, f7], by simp [upd, f9], by simp [upd, f10], by simp [upd, f12]⟩

set_option maxHeartbeats 1000000 in
theorem tailA40 {I k : Nat} (hR : Rows2 w0 a ca m z x os) (hX : RepX w0 w os) (hI : os[I]? = some (.cells #[.slice (if m = k then ca else ca.map (·.add k)) (m - k) (m - k), .nilIface] 29)) (hk : k ≤ m) (hG : Good w0.heap.size I k m c0 a ca f) :
    CF Yba.prog 179 (tailFrom 40 (Yba.f3.body.getD .skip)) (endF Yba.prog Yba.f3 fun e w' => e = .returned (.bool true) ∧ Below w0.heap.size w0 w') f w := by
  obtain ⟨f0, f7, f9, f10, f12⟩ := id hG
  have hm := hR.hm
  have hws : IntKind.i64.wrap ((m : Int) - (k : Int)) = (m : Int) - (k : Int) := IntWalk.i64_in _ (by omega)
  refine CF.seq (CF.seq (CF.region ?_))
  -- region 40
  refine RF.move _ (.pointer (some ⟨w0.heap.size + I, 0, none⟩)) rfl rfl (by decide) rfl (by simp [ev, upd, f0, f7, f9, f10, f12]) ?_
  refine RF.run (.pointer (some ⟨w0.heap.size + I, 0, none⟩)) rfl rfl (by decide) (by simp [execOp, ev, upd, eqGuard, f0, f7, f9, f10, f12]) ?_
  refine RF.run (.pointer (some ⟨w0.heap.size + I, 0, none⟩)) rfl rfl (by decide) (by simp [execOp, ev, upd, eqGuard, f0, f7, f9, f10, f12, field29_0]) ?_
  refine RF.run (.slice (if m = k then ca else ca.map (·.add k)) (m - k) (m - k)) rfl rfl (by decide) (x_loadA 22 _ _ (⟨w0.heap.size + I, 0, none⟩) (.slice (if m = k then ca else ca.map (·.add k)) (m - k) (m - k)) rfl Yba.underlying22 rfl (by simp [ev, upd, f0, f7, f9, f10, f12]) (cell_at (hX.block hI) rfl)) ?_
  refine RF.run (.int .i64 ((m - k : Nat) : Int)) rfl rfl (by decide) (x_len _ 22 (.slice (if m = k then ca else ca.map (·.add k)) (m - k) (m - k)) _ rfl (by simp [ev, upd, f0, f7, f9, f10, f12]) (len22 _ _ _ _ _)) ?_
  refine RF.move _ (.slice ca m m) rfl rfl (by decide) rfl (by simp [ev, upd, f0, f7, f9, f10, f12]) ?_
  refine RF.run (.int .i64 (m : Int)) rfl rfl (by decide) (x_len _ 22 (.slice ca m m) _ rfl (by simp [ev, upd, f0, f7, f9, f10, f12]) (len22 _ _ _ _ _)) ?_
  refine RF.move _ (.int .i64 (k : Int)) rfl rfl (by decide) rfl (by simp [ev, upd, f0, f7, f9, f10, f12]) ?_
  refine RF.run (.int .i64 ((m : Int) - (k : Int))) rfl rfl (by decide) (by simp [execOp, ev, upd, eqGuard, f0, f7, f9, f10, f12, go_sem, hws]) ?_
  refine RF.run (.bool false) rfl rfl (by decide) (by simp [execOp, ev, upd, eqGuard, go_sem]; omega) ?_
  refine RF.done (CF.condF (by simp [ev, upd]) (CF.skip ?_))
  show CF _ _ _ _ _ _
  refine CF.seq (CF.seq (CF.region ?_))
  refine RF.assign _ (.int .i64 ((0 : Nat) : Int)) rfl rfl (by decide) rfl rfl (RF.done ?_)
  refine CF.block ?_
  refine CF.loop (fun f w1 => ∃ j : Nat, j ≤ m - k ∧ f 14 = .int .i64 (j : Int) ∧ RepX w0 w1 os ∧ Good w0.heap.size I k m c0 a ca f) (fun f _ => (m - k) - (intOf (f 14)).toNat) ?_ ?_
  · exact ⟨0, Nat.zero_le _, by simp [upd], hX, ⟨by simp [upd, f0], by simp [upd, f7], by simp [upd, f9], by simp [upd, f10], by simp [upd, f12]⟩⟩
  · rintro g w1 ⟨j, hj, g14, hX1, hG1⟩
    refine roundA2 hR hX1 hI hk hj hG1 g14 (fun f2 w2 hX2 hG2 => ?_) (fun f2 w2 hjk hX2 hG2 h14 => ?_)
    · show CF _ _ _ _ _ _
      exact tailA47 hR hX2 hI hk hG2
    · refine ⟨⟨j + 1, by omega, h14, hX2, hG2⟩, ?_⟩
      rw [h14, g14]
      simp [intOf]
      omega

set_option maxHeartbeats 1000000 in
theorem tailA28 {I k : Nat} (hR : Rows2 w0 a ca m z x os) (hX : RepX w0 w os) (hI : os[I]? = some (.cells #[.slice (if m = k then ca else ca.map (·.add k)) (m - k) (m - k), .nilIface] 29)) (hk : k ≤ m)
    (f0 : f 0 = .slice a m c0) (f2 : f 2 = .int .u64 (k : Int)) (f7 : f 7 = .slice ca m m) (f9 : f 9 = .pointer (some ⟨w0.heap.size + I, 0, none⟩)) (f10 : f 10 = .slice ca k k) :
    CF Yba.prog 179 (tailFrom 28 (Yba.f3.body.getD .skip)) (endF Yba.prog Yba.f3 fun e w' => e = .returned (.bool true) ∧ Below w0.heap.size w0 w') f w := by
  have hm := hR.hm
  refine CF.seq (CF.region ?_)
  -- region 28
  refine RF.move _ (.int .u64 (k : Int)) rfl rfl (by decide) rfl (by simp [ev, upd, f0, f2, f7, f9, f10]) ?_
  refine RF.run (.int .i64 (k : Int)) rfl rfl (by decide) (by simp [execOp, ev, upd, eqGuard, f0, f2, f7, f9, f10, conv3 _ k (by omega)]) ?_
  refine RF.assign _ (.int .i64 (k : Int)) rfl rfl (by decide) rfl (by simp [ev, upd, f0, f2, f7, f9, f10]) ?_
  refine RF.done (CF.seq (CF.seq (CF.region ?_)))
  -- region 29
  refine RF.move _ (.pointer (some ⟨w0.heap.size + I, 0, none⟩)) rfl rfl (by decide) rfl (by simp [ev, upd, f0, f2, f7, f9, f10]) ?_
  refine RF.run (.pointer (some ⟨w0.heap.size + I, 0, none⟩)) rfl rfl (by decide) (by simp [execOp, ev, upd, eqGuard, f0, f2, f7, f9, f10]) ?_
  refine RF.run (.pointer (some ⟨w0.heap.size + I, 1, none⟩)) rfl rfl (by decide) (by simp [execOp, ev, upd, eqGuard, f0, f2, f7, f9, f10, field29_1]) ?_
  refine RF.run (.nilIface) rfl rfl (by decide) (x_loadA 25 _ _ (⟨w0.heap.size + I, 1, none⟩) (.nilIface) rfl Yba.underlying25 rfl (by simp [ev, upd, f0, f2, f7, f9, f10]) (cell_at (hX.block hI) rfl)) ?_
  refine RF.run (.bool false) rfl rfl (by decide) (by simp [execOp, ev, upd, eqGuard, f0, f2, f7, f9, f10, nil25_neq]) ?_
  refine RF.done (CF.condF (by simp [ev, upd]) (CF.skip ?_))
  show CF _ _ _ _ _ _
  refine CF.seq (CF.seq (CF.region ?_))
  -- region 31
  refine RF.move _ (.slice ca k k) rfl rfl (by decide) rfl (by simp [ev, upd, f0, f2, f7, f9, f10]) ?_
  refine RF.run (.bool ca.isNone) rfl rfl (by decide) (by simp [execOp, ev, upd, eqGuard, f0, f2, f7, f9, f10, eqlnil22']) ?_
  refine RF.move _ (.slice ca m m) rfl rfl (by decide) rfl (by simp [ev, upd, f0, f2, f7, f9, f10]) ?_
  refine RF.run (.bool ca.isNone) rfl rfl (by decide) (by simp [execOp, ev, upd, eqGuard, f0, f2, f7, f9, f10, eqlnil22']) ?_
  refine RF.run (.bool false) rfl rfl (by decide) (by simp [execOp, ev, upd, eqGuard, f0, f2, f7, f9, f10, go_sem, Yba.underlying4]) ?_
  refine RF.done (CF.condF (by simp [ev, upd]) (CF.skip ?_))
  show CF _ _ _ _ _ _
  refine CF.seq (CF.seq (CF.region ?_))
  -- region 33
  refine RF.move _ (.slice ca k k) rfl rfl (by decide) rfl (by simp [ev, upd, f0, f2, f7, f9, f10]) ?_
  refine RF.run (.int .i64 (k : Int)) rfl rfl (by decide) (x_len _ 22 (.slice ca k k) _ rfl (by simp [ev, upd, f0, f2, f7, f9, f10]) (len22 _ _ _ _ _)) ?_
  refine RF.run (.int .u64 (k : Int)) rfl rfl (by decide) (by simp [execOp, ev, upd, eqGuard, f0, f2, f7, f9, f10, conv23 _ k (by omega)]) ?_
  refine RF.move _ (.int .u64 (k : Int)) rfl rfl (by decide) rfl (by simp [ev, upd, f0, f2, f7, f9, f10]) ?_
  refine RF.run (.bool false) rfl rfl (by decide) (by simp [execOp, ev, upd, eqGuard, f0, f2, f7, f9, f10, go_sem]) ?_
  refine RF.move _ (.bool false) rfl rfl (by decide) rfl (by simp [ev, upd, f0, f2, f7, f9, f10]) ?_
  refine RF.runG (.slice ca k k) (t := 99) rfl rfl (by decide) (by simp [ev, upd, f0, f2, f7, f9, f10]) rfl (by decide) (by simp [execOp, ev, upd, f0, f2, f7, f9, f10]) ?_
  refine RF.runG (.int .i64 (k : Int)) (t := 99) rfl rfl (by decide) (by simp [ev, upd, f0, f2, f7, f9, f10]) rfl (by decide) (x_cap _ 22 (.slice ca k k) _ rfl (by simp [ev, upd, f0, f2, f7, f9, f10]) (cap22 _ _ _ _ _)) ?_
  refine RF.runG (.int .u64 (k : Int)) (t := 99) rfl rfl (by decide) (by simp [ev, upd, f0, f2, f7, f9, f10]) rfl (by decide) (by simp [execOp, ev, upd, eqGuard, f0, f2, f7, f9, f10, conv23 _ k (by omega)]) ?_
  refine RF.runG (.int .u64 (k : Int)) (t := 99) rfl rfl (by decide) (by simp [ev, upd, f0, f2, f7, f9, f10]) rfl (by decide) (by simp [execOp, ev, upd, f0, f2, f7, f9, f10]) ?_
  refine RF.runG (.bool false) (t := 99) rfl rfl (by decide) (by simp [ev, upd, f0, f2, f7, f9, f10]) rfl (by decide) (by simp [execOp, ev, upd, eqGuard, f0, f2, f7, f9, f10, go_sem]) ?_
  refine RF.run (.bool false) rfl rfl (by decide) (by simp [execOp, ev, upd, eqGuard, f0, f2, f7, f9, f10, asBool]) ?_
  refine RF.done (CF.condF (by simp [ev, upd]) (CF.skip ?_))
  show CF _ _ _ _ _ _
  refine CF.seq (CF.seq (CF.region ?_))
  refine RF.assign _ (.int .i64 ((0 : Nat) : Int)) rfl rfl (by decide) rfl rfl (RF.done ?_)
  refine CF.block ?_
  refine CF.loop (fun f w1 => ∃ j : Nat, j ≤ k ∧ f 13 = .int .i64 (j : Int) ∧ RepX w0 w1 os ∧ Good w0.heap.size I k m c0 a ca f) (fun f _ => k - (intOf (f 13)).toNat) ?_ ?_
  · exact ⟨0, Nat.zero_le _, by simp [upd], hX, ⟨by simp [upd, f0], by simp [upd, f7], by simp [upd, f9], by simp [upd, f10], by simp [upd]⟩⟩
  · rintro g w1 ⟨j, hj, g13, hX1, hG1⟩
    refine roundA1 hR hX1 hk hj hG1 g13 (fun f2 w2 hX2 hG2 => ?_) (fun f2 w2 hjk hX2 hG2 h13 => ?_)
    · show CF _ _ _ _ _ _
      exact tailA40 hR hX2 hI hk hG2
    · refine ⟨⟨j + 1, by omega, h13, hX2, hG2⟩, ?_⟩
      rw [h13, g13]
      simp [intOf]
      omega

set_option maxHeartbeats 1000000 in
theorem tailA12good {I k : Nat} (hR : Rows2 w0 a ca m z x os) (hX : RepX w0 w os) (hI : os[I]? = some (.cells #[.slice (if m = k then ca else ca.map (·.add k)) (m - k) (m - k), .nilIface] 29)) (hk : k ≤ m)
    (f0 : f 0 = .slice a m c0) (f1 : f 1 = .bool false) (f2 : f 2 = .int .u64 (k : Int)) (f7 : f 7 = .slice ca m m) (f9 : f 9 = .pointer (some ⟨w0.heap.size + I, 0, none⟩)) (f10 : f 10 = .slice ca k k) :
    CF Yba.prog 179 (tailFrom 12 (Yba.f3.body.getD .skip)) (endF Yba.prog Yba.f3 fun e w' => e = .returned (.bool true) ∧ Below w0.heap.size w0 w') f w := by
  have hm := hR.hm
  refine CF.seq (CF.seq (CF.region ?_))
  -- region 12
  refine RF.move _ (.slice ca m m) rfl rfl (by decide) rfl (by simp [ev, upd, f0, f1, f2, f7, f9, f10]) ?_
  refine RF.move _ (.slice a m c0) rfl rfl (by decide) rfl (by simp [ev, upd, f0, f1, f2, f7, f9, f10]) ?_
  refine RF.call 7 #[.slice ca m m, .slice a m c0] rfl rfl (by decide) (x_call 7 _ _ _ _ rfl Yba.func7 (by kernel_rfl) rfl (by simp [ev, upd, f0, f1, f2, f7, f9, f10]) rfl) (eq_any _ m m c0 ca a z ⟨w0.heap.size, 0, none⟩ x hR.nils hR.cx hR.ax hR.hm (hR.ccell hX) (hR.bcell hX)) (fun v w1 hv => ?_)
  obtain ⟨rfl, r1⟩ := hv
  have hX1 := hX.grow r1
  refine RF.run (.bool false) rfl rfl (by decide) (by simp [execOp, ev, upd, eqGuard, f0, f1, f2, f7, f9, f10, go_sem]) ?_
  refine RF.done (CF.condF (by simp [ev, upd]) (CF.skip ?_))
  show CF _ _ _ _ _ _
  refine CF.seq (CF.region ?_)
  -- region 14
  refine RF.move _ (.slice ca m m) rfl rfl (by decide) rfl (by simp [ev, upd, f0, f1, f2, f7, f9, f10]) ?_
  refine RF.run (.int .i64 (m : Int)) rfl rfl (by decide) (x_len _ 22 (.slice ca m m) _ rfl (by simp [ev, upd, f0, f1, f2, f7, f9, f10]) (len22 _ _ _ _ _)) ?_
  refine RF.run (.int .u64 (m : Int)) rfl rfl (by decide) (by simp [execOp, ev, upd, eqGuard, f0, f1, f2, f7, f9, f10, conv23 _ m hR.hm]) ?_
  refine RF.assign _ (.int .u64 (m : Int)) rfl rfl (by decide) rfl (by simp [ev, upd, f0, f1, f2, f7, f9, f10]) ?_
  refine RF.done (CF.seq (CF.seq (CF.region ?_)))
  -- region 15
  refine RF.move _ (.bool false) rfl rfl (by decide) rfl (by simp [ev, upd, f0, f1, f2, f7, f9, f10]) ?_
  refine RF.move _ (.bool false) rfl rfl (by decide) rfl (by simp [ev, upd, f0, f1, f2, f7, f9, f10]) ?_
  refine RF.runG (.int .u64 (k : Int)) (t := 43) rfl rfl (by decide) (by simp [ev, upd, f0, f1, f2, f7, f9, f10]) rfl (by decide) (by simp [execOp, ev, upd, f0, f1, f2, f7, f9, f10]) ?_
  refine RF.runG (.int .u64 (m : Int)) (t := 43) rfl rfl (by decide) (by simp [ev, upd, f0, f1, f2, f7, f9, f10]) rfl (by decide) (by simp [execOp, ev, upd, f0, f1, f2, f7, f9, f10]) ?_
  refine RF.runG (.bool false) (t := 43) rfl rfl (by decide) (by simp [ev, upd, f0, f1, f2, f7, f9, f10]) rfl (by decide) (by simp [execOp, ev, upd, go_sem]; omega) ?_
  refine RF.run (.bool false) rfl rfl (by decide) (by simp [execOp, ev, upd, eqGuard, f0, f1, f2, f7, f9, f10, asBool]) ?_
  refine RF.done (CF.condF (by simp [ev, upd]) (CF.skip ?_))
  show CF _ _ _ _ _ _
  exact tailA28 (c0 := c0) hR hX1 hI hk (by simp [upd, f0]) (by simp [upd, f2]) (by simp [upd, f7]) (by simp [upd, f9]) (by simp [upd, f10])

set_option maxHeartbeats 1000000 in
theorem tailA7 {fl : Bool} {u : Int} (hR : Rows2 w0 a ca m z x os) (hr : Rep w0 w os) (hca : ca.map (·.add 0) = ca) (hu0 : 0 ≤ u)
    (f0 : f 0 = .slice a m c0) (f1 : f 1 = .bool fl) (f2 : f 2 = .int .u64 u) (f7 : f 7 = .slice ca m m) :
    CF Yba.prog 179 (tailFrom 7 (Yba.f3.body.getD .skip)) (endF Yba.prog Yba.f3 fun e w' => e = .returned (.bool true) ∧ Below w0.heap.size w0 w') f w := by
  refine CF.seq (CF.region ?_)
  -- region 7
  refine RF.assign _ (.nilIface) rfl rfl (by decide) rfl (by simp [ev, upd, f0, f1, f2, f7]) ?_
  refine RF.done (CF.seq (CF.seq (CF.region ?_)))
  -- region 8
  refine RF.move _ (.bool fl) rfl rfl (by decide) rfl (by simp [ev, upd, f0, f1, f2, f7]) ?_
  refine RF.done ?_
  cases fl
  · skip
    refine CF.condF (by simp [ev, upd]) (CF.skip ?_)
    show CF _ _ _ _ _ _
    refine CF.seq (CF.region ?_)
    -- region 10
    refine RF.move _ (.slice ca m m) rfl rfl (by decide) rfl (by simp [ev, upd, f0, f1, f2, f7]) ?_
    refine RF.move _ (.nilIface) rfl rfl (by decide) rfl (by simp [ev, upd, f0, f1, f2, f7]) ?_
    refine RF.run (.agg #[.slice ca m m, .nilIface]) rfl rfl (by decide) (by simp [execOp, ev, upd, eqGuard, f0, f1, f2, f7, build29n]) ?_
    refine RF.box 29 _ #[.slice ca m m, .nilIface] hr rfl rfl (by decide) rfl (by simp [ev, upd, f0, f1, f2, f7]) (fun w3 r3 => ?_)
    refine RF.assign _ (.pointer (some ⟨w0.heap.size + os.length, 0, none⟩)) rfl rfl (by decide) rfl (by simp [ev, upd, f0, f1, f2, f7]) ?_
    refine RF.done (CF.seq (CF.region ?_))
    by_cases hu : (m : Int) < u
    · -- fewer are left
      -- region 11
      refine RF.move _ (.pointer (some ⟨w0.heap.size + os.length, 0, none⟩)) rfl rfl (by decide) rfl (by simp [ev, upd, f0, f1, f2, f7]) ?_
      refine RF.move _ (.int .u64 u) rfl rfl (by decide) rfl (by simp [ev, upd, f0, f1, f2, f7]) ?_
      refine RF.call 6 #[.pointer (some ⟨w0.heap.size + os.length, 0, none⟩), .int .u64 u] rfl rfl (by decide) (x_call 6 _ _ _ _ rfl Yba.func6 (by kernel_rfl) rfl (by simp [ev, upd, f0, f1, f2, f7]) rfl) (next_short w0 w3 _ os.length ca m m u hR.hm hu r3 (by simp)) (fun v w4 hv => ?_)
      obtain ⟨rfl, t, v, o, r4⟩ := hv
      refine RF.assign _ (.slice none 0 0) rfl rfl (by decide) rfl (by simp [ev, upd, f0, f1, f2, f7]) ?_
      refine RF.done ?_
      have e1 : (os ++ [Obj.cells #[.slice ca m m, .nilIface] 29] ++ [o]).set os.length (.cells #[.slice ca m m, .iface t v] 29) = os ++ [.cells #[.slice ca m m, .iface t v] 29, o] := by simp
      rw [e1] at r4
      exact tailA12bad (c0 := c0) (I := os.length) (er := .iface t v) (e0 := .nilIface) (fl := false) (u := u) (hR.append _) r4.x (by simp) (by simp [upd, f0]) (by simp [upd, f1]) (by simp [upd, f2]) (by simp [upd, f7]) (by simp [upd]) (by simp [upd]) (by simp [upd]) (.inr ⟨rfl, hu, _, _, rfl⟩)
    · -- there are enough
      obtain ⟨k, rfl⟩ := Int.eq_ofNat_of_zero_le hu0
      have hk : k ≤ m := by omega
      -- region 11
      refine RF.move _ (.pointer (some ⟨w0.heap.size + os.length, 0, none⟩)) rfl rfl (by decide) rfl (by simp [ev, upd, f0, f1, f2, f7]) ?_
      refine RF.move _ (.int .u64 (k : Int)) rfl rfl (by decide) rfl (by simp [ev, upd, f0, f1, f2, f7]) ?_
      refine RF.call 6 #[.pointer (some ⟨w0.heap.size + os.length, 0, none⟩), .int .u64 (k : Int)] rfl rfl (by decide) (x_call 6 _ _ _ _ rfl Yba.func6 (by kernel_rfl) rfl (by simp [ev, upd, f0, f1, f2, f7]) rfl) (next_ok w0 w3 _ os.length ca m k hR.hm hk r3 (by simp) hca) (fun v w4 hv => ?_)
      obtain ⟨rfl, r4⟩ := hv
      refine RF.assign _ (.slice ca k k) rfl rfl (by decide) rfl (by simp [ev, upd, f0, f1, f2, f7]) ?_
      refine RF.done ?_
      have e1 : (os ++ [Obj.cells #[.slice ca m m, .nilIface] 29]).set os.length (.cells #[.slice (if m = k then ca else ca.map (·.add k)) (m - k) (m - k), .nilIface] 29) = os ++ [.cells #[.slice (if m = k then ca else ca.map (·.add k)) (m - k) (m - k), .nilIface] 29] := by simp
      rw [e1] at r4
      exact tailA12good (c0 := c0) (I := os.length) (k := k) (hR.append _) r4.x (by simp) hk (by simp [upd, f0]) (by simp [upd, f1]) (by simp [upd, f2]) (by simp [upd, f7]) (by simp [upd]) (by simp [upd])
  · skip
    refine CF.condT (by simp [ev, upd]) (CF.region ?_)
    -- region 9
    refine RF.call 5 #[.string ⟨#[98, 101, 102, 111, 114, 101]⟩] rfl rfl (by decide) (x_call 5 _ _ _ _ rfl Yba.func5 (by kernel_rfl) rfl (by simp [ev, upd, f0, f1, f2, f7]) rfl) (new_any _ _) (fun v w1 hv => ?_)
    obtain ⟨rfl, r1⟩ := hv
    have r2 := hr.trans r1
    refine RF.assign _ (.iface 61 (.pointer (some ⟨w.heap.size, 0, none⟩))) rfl rfl (by decide) rfl (by simp [ev, upd, f0, f1, f2, f7]) ?_
    refine RF.nil ?_
    show CF _ _ _ _ _ _
    refine CF.seq (CF.region ?_)
    -- region 10
    refine RF.move _ (.slice ca m m) rfl rfl (by decide) rfl (by simp [ev, upd, f0, f1, f2, f7]) ?_
    refine RF.move _ (.iface 61 (.pointer (some ⟨w.heap.size, 0, none⟩))) rfl rfl (by decide) rfl (by simp [ev, upd, f0, f1, f2, f7]) ?_
    refine RF.run (.agg #[.slice ca m m, .iface 61 (.pointer (some ⟨w.heap.size, 0, none⟩))]) rfl rfl (by decide) (by simp [execOp, ev, upd, eqGuard, f0, f1, f2, f7, build29i]) ?_
    refine RF.box 29 _ #[.slice ca m m, .iface 61 (.pointer (some ⟨w.heap.size, 0, none⟩))] r2 rfl rfl (by decide) rfl (by simp [ev, upd, f0, f1, f2, f7]) (fun w3 r3 => ?_)
    refine RF.assign _ (.pointer (some ⟨w0.heap.size + (os ++ [Obj.cells #[Value.string ⟨#[98, 101, 102, 111, 114, 101]⟩] 63]).length, 0, none⟩)) rfl rfl (by decide) rfl (by simp [ev, upd, f0, f1, f2, f7]) ?_
    refine RF.done (CF.seq (CF.region ?_))
    -- region 11
    refine RF.move _ (.pointer (some ⟨w0.heap.size + (os ++ [Obj.cells #[Value.string ⟨#[98, 101, 102, 111, 114, 101]⟩] 63]).length, 0, none⟩)) rfl rfl (by decide) rfl (by simp [ev, upd, f0, f1, f2, f7]) ?_
    refine RF.move _ (.int .u64 u) rfl rfl (by decide) rfl (by simp [ev, upd, f0, f1, f2, f7]) ?_
    refine RF.call 6 #[.pointer (some ⟨w0.heap.size + (os ++ [Obj.cells #[Value.string ⟨#[98, 101, 102, 111, 114, 101]⟩] 63]).length, 0, none⟩), .int .u64 u] rfl rfl (by decide) (x_call 6 _ _ _ _ rfl Yba.func6 (by kernel_rfl) rfl (by simp [ev, upd, f0, f1, f2, f7]) rfl) (next_failed w0 w3 _ _ (.slice ca m m) 61 (.pointer (some ⟨w.heap.size, 0, none⟩)) u r3 (by simp)) (fun v w4 hv => ?_)
    obtain ⟨rfl, rfl⟩ := hv
    refine RF.assign _ (.slice none 0 0) rfl rfl (by decide) rfl (by simp [ev, upd, f0, f1, f2, f7]) ?_
    refine RF.done ?_
    exact tailA12bad (c0 := c0) (I := (os ++ [Obj.cells #[Value.string ⟨#[98, 101, 102, 111, 114, 101]⟩] 63]).length) (er := .iface 61 (.pointer (some ⟨w.heap.size, 0, none⟩))) (e0 := .iface 61 (.pointer (some ⟨w.heap.size, 0, none⟩))) (fl := true) (u := u) ((hR.append _).append _) r3.x (by simp) (by simp [upd, f0]) (by simp [upd, f1]) (by simp [upd, f2]) (by simp [upd, f7]) (by simp [upd]) (by simp [upd]) (by simp [upd]) (.inl ⟨rfl, _, rfl, rfl⟩)

end

theorem info5 : (Yba.prog.info? 5).map (fun i => (i.zero, i.size, i.bytes)) = some (some (.int .u8 0), 1, 1) := by kernel_rfl

set_option maxHeartbeats 1000000 in
/-- THE WALK: LawS6386AWhole returns true and writes nothing that was there. -/
theorem walkA (a : Option Addr) (m c0 : Nat) (zs : List Int) (fl : Bool) (u : Int) (w : World) (h0 : IsRow .u8 w a m c0 zs) (hu0 : 0 ≤ u) :
    Calls Yba.prog 3 #[.slice a m c0, .bool fl, .int .u64 u] w fun e w' => e = .returned (.bool true) ∧ Below w.heap.size w w' := by
  refine calls_of_CF 179 Yba.func3 rfl rfl (by simp) ?_
  intro f hf
  have f0 : f 0 = .slice a m c0 := start_at hf 0 (by simp)
  have f1 : f 1 = .bool fl := start_at hf 1 (by simp)
  have f2 : f 2 = .int .u64 u := start_at hf 2 (by simp)
  clear hf
  refine CF.seq (CF.region ?_)
  -- region 0
  refine RF.assign _ (.bool false) rfl rfl (by decide) rfl (by simp [ev, upd, f0, f1, f2]) ?_
  refine RF.done (CF.seq (CF.seq (CF.region ?_)))
  -- region 1
  refine RF.move _ (.slice a m c0) rfl rfl (by decide) rfl (by simp [ev, upd, f0, f1, f2]) ?_
  refine RF.run (.int .i64 (m : Int)) rfl rfl (by decide) (x_len _ 22 (.slice a m c0) _ rfl (by simp [ev, upd, f0, f1, f2]) (len22 _ _ _ _ _)) ?_
  refine RF.run (.bool (decide ((1048576 : Int) < (m : Int)))) rfl rfl (by decide) (by simp [execOp, ev, upd, eqGuard, f0, f1, f2, go_sem]) ?_
  refine RF.done ?_
  by_cases hn : 1048576 < m
  · refine CF.condT (by simp [ev, upd]; omega) ?_
    refine CF.seq (CF.region ?_)
    refine RF.assign _ (.bool true) rfl rfl (by decide) rfl rfl (RF.done ?_)
    refine CF.ret ?_
    rw [then_ret]
    exact endF_tmp rfl ⟨by simp [upd], Below.refl _ _⟩
  · refine CF.condF (by simp [ev, upd]; omega) (CF.skip ?_)
    show CF _ _ _ _ _ _
    refine CF.seq (CF.region ?_)
    -- region 3
    refine RF.assign _ (.slice none 0 0) rfl rfl (by decide) rfl (by simp [ev, upd, f0, f1, f2]) ?_
    refine RF.done (CF.seq (CF.seq (CF.region ?_)))
    rcases h0 with ⟨rfl, rfl, rfl, rfl⟩ | ⟨x, rfl, hlc, _, hzl, hc, hwf⟩
    · skip
      -- region 4
      refine RF.move _ (.slice none 0 0) rfl rfl (by decide) rfl (by simp [ev, upd, f0, f1, f2]) ?_
      refine RF.run (.bool false) rfl rfl (by decide) (by simp [execOp, ev, upd, eqGuard, f0, f1, f2, neqnil22]) ?_
      refine RF.done (CF.condF (by simp [ev, upd]) (CF.skip ?_))
      show CF _ _ _ _ _ _
      exact tailA7 (a := none) (ca := none) (m := 0) (c0 := 0) (x := ⟨0, 0, none⟩) (z := fun _ => 0) (fl := fl) (u := u) (os := []) ⟨by omega, rfl, by omega, by omega, fun i hi => by omega, #[], by omega, fun i hi => by omega⟩ (Rep.refl w) rfl hu0 (by simp [upd, f0]) (by simp [upd, f1]) (by simp [upd, f2]) (by simp [upd])
    · have hlt : (zs.take m).length = m := by simp; omega
      have hcopy : ∀ {w1 : World}, Rep w w1 [.cells (madeCells #[.int .u8 0] m) 5] → ∀ ty, (Builtin.copy_ #[22, 22] ty #[.slice (some ⟨w.heap.size, 0, none⟩) m m, .slice (some x) m c0]).run Yba.prog w1 = .ok (.int .i64 (m : Int)) (w1.setRow w.heap.size ((zs.take m).map (Value.int .u8)).toArray) := by
        intro w1 r1 ty
        have h := run_copy_row (P := Yba.prog) w1 22 22 ty 5 w.heap.size 0 m m x m c0 (madeCells #[.int .u8 0] m) 5 ((zs.take m).map (Value.int .u8)) Yba.underlying22 size5 (r1.block (i := 0) rfl) (by simp; omega)
          (fun j v hj => by
            rw [List.getElem?_map, List.getElem?_take] at hj
            split at hj
            · rename_i hjl
              have hjz : j < zs.length := by omega
              simp [List.getElem?_eq_getElem hjz] at hj
              subst hj
              have h1 := r1.cell (hc j hjz)
              rw [h1]
              simp [List.getD, List.getElem?_eq_getElem hjz]
            · cases hj) (by rw [size_madeCells]; simp; omega) (fun v hv => by
              obtain ⟨n, _, rfl⟩ := List.mem_map.1 hv
              rfl)
        rw [h]
        have e1 : ((zs.take m).map (Value.int .u8)).length = m := by simp; omega
        have e2 : (madeCells #[Value.int .u8 0] m).toList.drop m = [] := by rw [List.drop_eq_nil_iff]; simp [size_madeCells]
        simp only [List.take_zero, List.nil_append, Nat.zero_add, e1, e2, List.append_nil, goInt]
      -- region 4
      refine RF.move _ (.slice (some x) m c0) rfl rfl (by decide) rfl (by simp [ev, upd, f0, f1, f2]) ?_
      refine RF.run (.bool true) rfl rfl (by decide) (by simp [execOp, ev, upd, eqGuard, f0, f1, f2, neqnil22]) ?_
      refine RF.done (CF.condT (by simp [ev, upd]) (CF.seq (CF.region ?_)))
      -- region 5
      refine RF.move _ (.slice (some x) m c0) rfl rfl (by decide) rfl (by simp [ev, upd, f0, f1, f2]) ?_
      refine RF.run (.int .i64 (m : Int)) rfl rfl (by decide) (x_len _ 22 (.slice (some x) m c0) _ rfl (by simp [ev, upd, f0, f1, f2]) (len22 _ _ _ _ _)) ?_
      refine RF.val (.slice (some ⟨w.heap.size, 0, none⟩) m m) (w.alloc (.cells (madeCells #[.int .u8 0] m) 5)) rfl rfl (by decide) (by simp [execOp, ev, upd, run_make_row' 22 5 (.int .u8 0) 1 Yba.underlying22 info5 rfl .i64 .i64 m (by omega) (by omega), Result.andThen]) ?_
      have r1 : Rep w (w.alloc (.cells (madeCells #[.int .u8 0] m) 5)) [.cells (madeCells #[.int .u8 0] m) 5] := (Rep.refl w).alloc _
      generalize w.alloc (.cells (madeCells #[.int .u8 0] m) 5) = w1 at r1 ⊢
      refine RF.assign _ (.slice (some ⟨w.heap.size, 0, none⟩) m m) rfl rfl (by decide) rfl (by simp [ev, upd, f0, f1, f2]) ?_
      refine RF.done (CF.region ?_)
      -- region 6
      refine RF.move _ (.slice (some ⟨w.heap.size, 0, none⟩) m m) rfl rfl (by decide) rfl (by simp [ev, upd, f0, f1, f2]) ?_
      refine RF.move _ (.slice (some x) m c0) rfl rfl (by decide) rfl (by simp [ev, upd, f0, f1, f2]) ?_
      refine RF.val (.int .i64 (m : Int)) (w1.setRow w.heap.size ((zs.take m).map (Value.int .u8)).toArray) rfl rfl (by decide) (by simp [execOp, ev, upd, resolve, invoke, builtin, f0, f1, f2, hcopy r1, Result.andThen]) ?_
      have r2 := r1.setRow (i := 0) rfl ((zs.take m).map (Value.int .u8)).toArray
      simp only [Nat.add_zero] at r2
      generalize w1.setRow w.heap.size ((zs.take m).map (Value.int .u8)).toArray = w2 at r2 ⊢
      refine RF.nil ?_
      show CF _ _ _ _ _ _
      refine tailA7 (a := some x) (ca := some ⟨w.heap.size, 0, none⟩) (m := m) (c0 := c0) (x := x) (z := fun i => zs.getD i 0) (fl := fl) (u := u) ⟨by omega, rfl, fun _ => rfl, fun _ => rfl, fun i hi => hc i (by omega), _, fun _ => rfl, fun i hi => ?_⟩ r2 (by rw [Option.map_some, add_head]) hu0 (by simp [upd, f0]) (by simp [upd, f1]) (by simp [upd, f2]) (by simp [upd])
      have hiz : i < zs.length := by omega
      simp [List.getElem?_take, hi, List.getD, List.getElem?_eq_getElem hiz]

end Go.Proofs.Ybulkebfq

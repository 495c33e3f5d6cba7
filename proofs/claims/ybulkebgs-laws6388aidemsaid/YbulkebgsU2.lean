/-
  upperASCII (6), zzs6388aup (7); the walks of LawS6388AWhole (3) and LawS6388AIdem (4).
-/
import Derived.Test.YbulkebgsU1
namespace Go.Proofs.Ybulkebgs
open Go.RowKit
set_option linter.unusedSimpArgs false
set_option linter.unusedVariables false

theorem then_ret (K : (Nat → Value) → World → Prop) (Q : Exit → (Nat → Value) → World → Prop) (f : Nat → Value) (w : World) : thenF K Q .ret f w = Q .ret f w := rfl

/-! ### zzs6388aup -/
def capNums : List Int := [65, 66, 67, 68, 69, 70, 71, 72, 73, 74, 75, 76, 77, 78, 79, 80, 81, 82, 83, 84, 85, 86, 87, 88, 89, 90]
theorem cap_str : (⟨#[65, 66, 67, 68, 69, 70, 71, 72, 73, 74, 75, 76, 77, 78, 79, 80, 81, 82, 83, 84, 85, 86, 87, 88, 89, 90]⟩ : ByteArray) = strOfNums capNums := by decide
theorem cap_byte : ∀ n ∈ capNums, 0 ≤ n ∧ n ≤ 255 := by decide
theorem cap_at : ∀ k, k < 26 → capNums.getD k 0 = 65 + (k : Int) := by decide

set_option maxHeartbeats 1000000 in
theorem aup_any (c : Int) (w : World) (hc : 0 ≤ c ∧ c ≤ 255) : Calls Yba.prog 7 #[.int .u8 c] w fun e w' => ∃ v, e = .returned v ∧ v = .int .u8 (upI c) ∧ w' = w := by
  refine calls_of_CF 13 Yba.func7 rfl rfl (by simp) ?_
  intro f hf
  have f0 : f 0 = .int .u8 c := start_at hf 0 (by simp)
  clear hf
  refine CF.seq (CF.region ?_)
  -- region 0
  refine RF.assign _ (.int .u8 0) rfl rfl (by decide) rfl (by simp [ev, upd, f0]) ?_
  refine RF.done (CF.seq (CF.seq (CF.region ?_)))
  by_cases h1 : 97 ≤ c
  · by_cases h2 : c ≤ 122
    · obtain ⟨k, hk⟩ := Int.eq_ofNat_of_zero_le (show 0 ≤ c - 97 by omega)
      have hk26 : k < 26 := by omega
      have hw : IntKind.u8.wrap (c - 97) = (k : Int) := by rw [hk]; exact IntWalk.u8_in _ (by omega)
      have hidx := fun w => index9 w capNums k .u8 cap_byte hk26
      rw [cap_at k hk26] at hidx
      rw [← cap_str] at hidx
      -- region 1
      refine RF.move _ (.int .u8 c) rfl rfl (by decide) rfl (by simp [ev, upd, f0]) ?_
      refine RF.run (.bool true) rfl rfl (by decide) (by simp [execOp, ev, upd, eqGuard, f0, go_sem, h1]) ?_
      refine RF.move _ (.bool true) rfl rfl (by decide) rfl (by simp [ev, upd, f0]) ?_
      refine RF.runG (.int .u8 c) (t := 5) rfl rfl (by decide) (by simp [ev, upd, f0]) rfl (by decide) (by simp [execOp, ev, upd, f0]) ?_
      refine RF.runG (.bool true) (t := 5) rfl rfl (by decide) (by simp [ev, upd, f0]) rfl (by decide) (by simp [execOp, ev, upd, go_sem, f0]; omega) ?_
      refine RF.run (.bool true) rfl rfl (by decide) (by simp [execOp, ev, upd, eqGuard, f0, asBool]) ?_
      refine RF.done (CF.condT (by simp [ev, upd]) (CF.seq (CF.region ?_)))
      -- region 2
      refine RF.move _ (.int .u8 c) rfl rfl (by decide) rfl (by simp [ev, upd, f0]) ?_
      refine RF.run (.int .u8 (k : Int)) rfl rfl (by decide) (by simp [execOp, ev, upd, eqGuard, f0, go_sem, hw]) ?_
      refine RF.run (.int .u8 (65 + (k : Int))) rfl rfl (by decide) (by simp [execOp, ev, upd, eqGuard, f0, hidx]) ?_
      refine RF.assign _ (.int .u8 (65 + (k : Int))) rfl rfl (by decide) rfl (by simp [ev, upd, f0]) ?_
      refine RF.done (CF.ret ?_)
      rw [then_ret]
      exact endF_tmp rfl ⟨_, rfl, by simp [upd, upI, h1, h2]; omega, rfl⟩
    · skip
      -- region 1
      refine RF.move _ (.int .u8 c) rfl rfl (by decide) rfl (by simp [ev, upd, f0]) ?_
      refine RF.run (.bool true) rfl rfl (by decide) (by simp [execOp, ev, upd, eqGuard, f0, go_sem, h1]) ?_
      refine RF.move _ (.bool true) rfl rfl (by decide) rfl (by simp [ev, upd, f0]) ?_
      refine RF.runG (.int .u8 c) (t := 5) rfl rfl (by decide) (by simp [ev, upd, f0]) rfl (by decide) (by simp [execOp, ev, upd, f0]) ?_
      refine RF.runG (.bool false) (t := 5) rfl rfl (by decide) (by simp [ev, upd, f0]) rfl (by decide) (by simp [execOp, ev, upd, go_sem, f0]; omega) ?_
      refine RF.run (.bool false) rfl rfl (by decide) (by simp [execOp, ev, upd, eqGuard, f0, asBool]) ?_
      refine RF.done (CF.condF (by simp [ev, upd]) (CF.skip ?_))
      show CF _ _ _ _ _ _
      refine CF.seq (CF.region ?_)
      -- region 3
      refine RF.move _ (.int .u8 c) rfl rfl (by decide) rfl (by simp [ev, upd, f0]) ?_
      refine RF.assign _ (.int .u8 c) rfl rfl (by decide) rfl (by simp [ev, upd, f0]) ?_
      refine RF.done (CF.ret ?_)
      exact endF_tmp rfl ⟨_, rfl, by simp [upd, upI, h1, h2], rfl⟩
  · skip
    -- region 1
    refine RF.move _ (.int .u8 c) rfl rfl (by decide) rfl (by simp [ev, upd, f0]) ?_
    refine RF.run (.bool false) rfl rfl (by decide) (by simp [execOp, ev, upd, eqGuard, f0, go_sem, h1]) ?_
    refine RF.move _ (.bool false) rfl rfl (by decide) rfl (by simp [ev, upd, f0]) ?_
    refine RF.skipG (t := 5) rfl rfl (by decide) (by simp [ev, upd, f0]) rfl (by decide) ?_
    refine RF.skipG (t := 5) rfl rfl (by decide) (by simp [ev, upd, f0]) rfl (by decide) ?_
    refine RF.run (.bool false) rfl rfl (by decide) (by simp [execOp, ev, upd, eqGuard, f0, asBool]) ?_
    refine RF.done (CF.condF (by simp [ev, upd]) (CF.skip ?_))
    show CF _ _ _ _ _ _
    refine CF.seq (CF.region ?_)
    -- region 3
    refine RF.move _ (.int .u8 c) rfl rfl (by decide) rfl (by simp [ev, upd, f0]) ?_
    refine RF.assign _ (.int .u8 c) rfl rfl (by decide) rfl (by simp [ev, upd, f0]) ?_
    refine RF.done (CF.ret ?_)
    exact endF_tmp rfl ⟨_, rfl, by simp [upd, upI, h1], rfl⟩

/-! ### upperASCII -/
/-- The row's bytes after k rounds. -/
def mix (zs : List Int) (k i : Nat) : Int := if i < k then upI (zs.getD i 0) else zs.getD i 0
theorem mix_step_up (zs : List Int) (k : Nat) (h1 : 97 ≤ zs.getD k 0) (h2 : zs.getD k 0 ≤ 122) : (fun i => if i = k then zs.getD k 0 - 97 + 65 else mix zs k i) = mix zs (k + 1) := by
  funext i
  unfold mix
  by_cases e : i = k
  · subst e
    rw [if_pos rfl, if_pos (by omega)]
    unfold upI
    rw [if_pos ⟨h1, h2⟩]
    omega
  · rw [if_neg e]
    have : (i < k) = (i < k + 1) := by apply propext; omega
    simp only [this]
theorem mix_step_id (zs : List Int) (k : Nat) (h : ¬ (97 ≤ zs.getD k 0 ∧ zs.getD k 0 ≤ 122)) : mix zs (k + 1) = mix zs k := by
  funext i
  unfold mix
  by_cases e : i = k
  · subst e
    rw [if_pos (by omega), if_neg (by omega)]
    unfold upI
    rw [if_neg h]
  · have : (i < k) = (i < k + 1) := by apply propext; omega
    simp only [this]

set_option maxHeartbeats 1000000 in
theorem roundU {w0 w : World} {n cap N k : Nat} {zs : List Int} {f : Nat → Value} {Q : Exit → (Nat → Value) → World → Prop} (hN : N = cap) (hnc : n ≤ cap) (hn : (n : Int) ≤ 9223372036854775807) (hkn : k ≤ n) (hz : ∀ i, 0 ≤ zs.getD i 0 ∧ zs.getD i 0 ≤ 255)
    (hr : Rep w0 w [.cells (rowF cap (mix zs k)) 5 (N, N + 1)]) (f3 : f 3 = .slice (some ⟨w0.heap.size + 0, 0, none⟩) n cap) (f8 : f 8 = .slice (some ⟨w0.heap.size + 0, 0, none⟩) n cap) (f9 : f 9 = .int .i64 (n : Int)) (f10 : f 10 = .int .i64 (k : Int))
    (hout : ∀ f' , k = n → f' 3 = .slice (some ⟨w0.heap.size + 0, 0, none⟩) n cap → Q (.exit 0) f' w)
    (hnext : ∀ f' w', k < n → Rep w0 w' [.cells (rowF cap (mix zs (k + 1))) 5 (N, N + 1)] → f' 3 = .slice (some ⟨w0.heap.size + 0, 0, none⟩) n cap → f' 8 = .slice (some ⟨w0.heap.size + 0, 0, none⟩) n cap → f' 9 = .int .i64 (n : Int) → f' 10 = .int .i64 ((k + 1 : Nat) : Int) → Q .normal f' w') :
    CF Yba.prog 30 ((loops (Yba.f6.body.getD .skip)).getD 0 .skip) Q f w := by
  refine CF.seq (CF.region ?_)
  -- region 3
  refine RF.run (.bool (decide ((k : Int) < (n : Int)))) rfl rfl (by decide) (by simp [execOp, ev, upd, eqGuard, f3, f8, f9, f10, go_sem]) ?_
  refine RF.done ?_
  by_cases hk : k < n
  · have hwrap : IntKind.i64.wrap ((k : Int) + 1) = (k : Int) + 1 := IntWalk.i64_in _ (by omega)
    obtain ⟨zk, hzk⟩ : ∃ zk, zk = zs.getD k 0 := ⟨_, rfl⟩
    have hzb := hz k
    rw [← hzk] at hzb
    have hcell : (rowF cap (mix zs k))[k]? = some (.int .u8 zk) := by rw [rowF_at cap _ k (by omega), hzk]; simp [mix]
    have hs1 : 97 ≤ zk → IntKind.u8.wrap (zk - 97) = zk - 97 := fun h => IntWalk.u8_in _ (by omega)
    have hs2 : 97 ≤ zk → zk ≤ 122 → IntKind.u8.wrap (zk - 97 + 65) = zk - 97 + 65 := fun h h' => IntWalk.u8_in _ (by omega)
    refine CF.seq (CF.condT (by simp [ev, upd, hk]) (CF.skip ?_))
    show CF _ _ _ _ _ _
    refine CF.seq (CF.block (CF.seq (CF.region ?_)))
    -- region 4
    refine RF.move _ (.int .i64 (k : Int)) rfl rfl (by decide) rfl (by simp [ev, upd, f3, f8, f9, f10]) ?_
    refine RF.run (.pointer (some ⟨w0.heap.size, k, none⟩)) rfl rfl (by decide) (by simp [execOp, ev, upd, eqGuard, f3, f8, f9, f10, index25 _ _ n cap k hk]) ?_
    refine RF.run (.int .u8 (zk)) rfl rfl (by decide) (x_loadA 5 _ _ (⟨w0.heap.size, k, none⟩) (.int .u8 (zk)) rfl Yba.underlying5 rfl (by simp [ev, upd, f3, f8, f9, f10]) (cell_at (hr.block (i := 0) rfl) hcell)) ?_
    refine RF.assign _ (.int .i64 (k : Int)) rfl rfl (by decide) rfl (by simp [ev, upd, f3, f8, f9, f10]) ?_
    refine RF.assign _ (.int .u8 (zk)) rfl rfl (by decide) rfl (by simp [ev, upd, f3, f8, f9, f10]) ?_
    refine RF.done (CF.seq (CF.region ?_))
    by_cases h1 : 97 ≤ zk
    · by_cases h2 : zk ≤ 122
      · skip
        -- region 5
        refine RF.move _ (.int .u8 (zk)) rfl rfl (by decide) rfl (by simp [ev, upd, f3, f8, f9, f10]) ?_
        refine RF.run (.bool true) rfl rfl (by decide) (by simp [execOp, ev, upd, go_sem, h1]) ?_
        refine RF.move _ (.bool true) rfl rfl (by decide) rfl (by simp [ev, upd, f3, f8, f9, f10]) ?_
        refine RF.runG (.int .u8 (zk)) (t := 17) rfl rfl (by decide) (by simp [ev, upd, f3, f8, f9, f10]) rfl (by decide) (by simp [execOp, ev, upd, f3, f8, f9, f10]) ?_
        refine RF.runG (.bool true) (t := 17) rfl rfl (by decide) (by simp [ev, upd, f3, f8, f9, f10]) rfl (by decide) (by simp [execOp, ev, upd, go_sem, h2]) ?_
        refine RF.run (.bool true) rfl rfl (by decide) (by simp [execOp, ev, upd, eqGuard, f3, f8, f9, f10, asBool]) ?_
        refine RF.done (CF.condT (by simp [ev, upd]) (CF.region ?_))
        -- region 6
        refine RF.move _ (.slice (some ⟨w0.heap.size + 0, 0, none⟩) n cap) rfl rfl (by decide) rfl (by simp [ev, upd, f3, f8, f9, f10]) ?_
        refine RF.move _ (.int .i64 (k : Int)) rfl rfl (by decide) rfl (by simp [ev, upd, f3, f8, f9, f10]) ?_
        refine RF.move _ (.int .u8 (zk)) rfl rfl (by decide) rfl (by simp [ev, upd, f3, f8, f9, f10]) ?_
        refine RF.run (.int .u8 (zk - 97)) rfl rfl (by decide) (by simp [execOp, ev, upd, eqGuard, f3, f8, f9, f10, go_sem, hs1 h1]) ?_
        refine RF.run (.int .u8 (zk - 97 + 65)) rfl rfl (by decide) (by simp [execOp, ev, upd, eqGuard, f3, f8, f9, f10, go_sem, hs2 h1 h2]) ?_
        refine RF.run (.pointer (some ⟨w0.heap.size, k, none⟩)) rfl rfl (by decide) (by simp [execOp, ev, upd, eqGuard, f3, f8, f9, f10, index25 _ _ n cap k hk]) ?_
        refine RF.storeF 5 5 _ _ 0 k (rowF cap (mix zs k)) (N, N + 1) (.int .u8 (zk - 97 + 65)) hr rfl (by simp; omega) (by rw [rowF_size]; omega) rfl rfl rfl (by simp [ev, upd, f3, f8, f9, f10]) (by simp [ev, upd, f3, f8, f9, f10]) rfl rfl size5 (fun w1 r1 => ?_)
        refine RF.nil ?_
        show CF _ _ _ _ _ _
        refine CF.region ?_
        -- region 7
        refine RF.run (.int .i64 ((k + 1 : Nat) : Int)) rfl rfl (by decide) (by simp [execOp, ev, upd, eqGuard, f3, f8, f9, f10, go_sem, hwrap]) ?_
        refine RF.move _ (.int .i64 ((k + 1 : Nat) : Int)) rfl rfl (by decide) rfl (by simp [ev, upd, f3, f8, f9, f10]) ?_
        refine RF.nil ?_
        refine hnext _ w1 hk ?_ (by simp [upd, f3]) (by simp [upd, f8]) (by simp [upd, f9]) (by simp [upd])
        rw [List.set_cons_zero, rowF_set] at r1
        subst hzk
        rw [mix_step_up zs k h1 h2] at r1
        exact r1
      · skip
        -- region 5
        refine RF.move _ (.int .u8 (zk)) rfl rfl (by decide) rfl (by simp [ev, upd, f3, f8, f9, f10]) ?_
        refine RF.run (.bool true) rfl rfl (by decide) (by simp [execOp, ev, upd, go_sem, h1]) ?_
        refine RF.move _ (.bool true) rfl rfl (by decide) rfl (by simp [ev, upd, f3, f8, f9, f10]) ?_
        refine RF.runG (.int .u8 (zk)) (t := 17) rfl rfl (by decide) (by simp [ev, upd, f3, f8, f9, f10]) rfl (by decide) (by simp [execOp, ev, upd, f3, f8, f9, f10]) ?_
        refine RF.runG (.bool false) (t := 17) rfl rfl (by decide) (by simp [ev, upd, f3, f8, f9, f10]) rfl (by decide) (by simp [execOp, ev, upd, go_sem]; omega) ?_
        refine RF.run (.bool false) rfl rfl (by decide) (by simp [execOp, ev, upd, eqGuard, f3, f8, f9, f10, asBool]) ?_
        refine RF.done (CF.condF (by simp [ev, upd]) (CF.skip ?_))
        show CF _ _ _ _ _ _
        refine CF.region ?_
        -- region 7
        refine RF.run (.int .i64 ((k + 1 : Nat) : Int)) rfl rfl (by decide) (by simp [execOp, ev, upd, eqGuard, f3, f8, f9, f10, go_sem, hwrap]) ?_
        refine RF.move _ (.int .i64 ((k + 1 : Nat) : Int)) rfl rfl (by decide) rfl (by simp [ev, upd, f3, f8, f9, f10]) ?_
        refine RF.nil ?_
        refine hnext _ w hk ?_ (by simp [upd, f3]) (by simp [upd, f8]) (by simp [upd, f9]) (by simp [upd])
        rw [mix_step_id zs k (by rw [← hzk]; omega)]
        exact hr
    · skip
      -- region 5
      refine RF.move _ (.int .u8 (zk)) rfl rfl (by decide) rfl (by simp [ev, upd, f3, f8, f9, f10]) ?_
      refine RF.run (.bool false) rfl rfl (by decide) (by simp [execOp, ev, upd, go_sem]; omega) ?_
      refine RF.move _ (.bool false) rfl rfl (by decide) rfl (by simp [ev, upd, f3, f8, f9, f10]) ?_
      refine RF.skipG (t := 17) rfl rfl (by decide) (by simp [ev, upd, f3, f8, f9, f10]) rfl (by decide) ?_
      refine RF.skipG (t := 17) rfl rfl (by decide) (by simp [ev, upd, f3, f8, f9, f10]) rfl (by decide) ?_
      refine RF.run (.bool false) rfl rfl (by decide) (by simp [execOp, ev, upd, eqGuard, f3, f8, f9, f10, asBool]) ?_
      refine RF.done (CF.condF (by simp [ev, upd]) (CF.skip ?_))
      show CF _ _ _ _ _ _
      refine CF.region ?_
      -- region 7
      refine RF.run (.int .i64 ((k + 1 : Nat) : Int)) rfl rfl (by decide) (by simp [execOp, ev, upd, eqGuard, f3, f8, f9, f10, go_sem, hwrap]) ?_
      refine RF.move _ (.int .i64 ((k + 1 : Nat) : Int)) rfl rfl (by decide) rfl (by simp [ev, upd, f3, f8, f9, f10]) ?_
      refine RF.nil ?_
      refine hnext _ w hk ?_ (by simp [upd, f3]) (by simp [upd, f8]) (by simp [upd, f9]) (by simp [upd])
      rw [mix_step_id zs k (by rw [← hzk]; omega)]
      exact hr
  · refine CF.seq (CF.condF (by simp [ev, upd, hk]) (CF.exit ?_))
    exact hout _ (by omega) (by simp [upd, f3])

theorem mix_all (zs : List Int) : (List.range zs.length).map (mix zs zs.length) = zs.map upI := by
  apply List.ext_getElem?
  intro i
  by_cases h : i < zs.length
  · simp [h, List.getElem?_range, mix]
  · simp [h]

set_option maxHeartbeats 1000000 in
theorem upper_any (s : ByteArray) (w : World) (hs : s.size ≤ 1048576) : Calls Yba.prog 6 #[.string s] w fun e w' => ∃ v, e = .returned v ∧ v = .string (strOfNums ((nums s).map upI)) ∧ ∃ o, Rep w w' [o] := by
  obtain ⟨cap, hcapeq⟩ : ∃ cap, cap = grownCap w s.size 0 5 := ⟨_, rfl⟩
  have hcap : s.size ≤ cap := by rw [hcapeq]; exact grownCap_ge w s.size 0 5
  have hconv := run_bytes_of_string (P := Yba.prog) w 9 25 5 s Yba.underlying9 Yba.underlying25 Yba.underlying5
  rw [← hcapeq] at hconv
  clear hcapeq
  refine calls_of_CF 30 Yba.func6 rfl rfl (by simp) ?_
  intro f hf
  have f0 : f 0 = .string s := start_at hf 0 (by simp)
  clear hf
  refine CF.seq (CF.region ?_)
  -- region 0
  refine RF.assign _ (.string { data := #[] }) rfl rfl (by decide) rfl (by simp [ev, upd, f0]) ?_
  refine RF.done (CF.seq (CF.region ?_))
  -- region 1
  refine RF.move _ (.string s) rfl rfl (by decide) rfl (by simp [ev, upd, f0]) ?_
  refine RF.val (.slice (some ⟨w.heap.size, 0, none⟩) s.size cap) (w.drew.alloc (.cells (bytesRow s cap) 5 ((bytesRow s cap).size, (bytesRow s cap).size + 1))) rfl rfl (by decide) (by simp [execOp, ev, upd, f0, hconv, Result.andThen]) ?_
  have r1 : Rep w (w.drew.alloc (.cells (bytesRow s cap) 5 ((bytesRow s cap).size, (bytesRow s cap).size + 1))) [.cells (bytesRow s cap) 5 ((bytesRow s cap).size, (bytesRow s cap).size + 1)] := ((Rep.refl w).drawn _).alloc _
  generalize w.drew.alloc (.cells (bytesRow s cap) 5 ((bytesRow s cap).size, (bytesRow s cap).size + 1)) = w1 at r1 ⊢
  rw [rowF_bytes s cap hcap, rowF_size] at r1
  refine RF.assign _ (.slice (some ⟨w.heap.size, 0, none⟩) s.size cap) rfl rfl (by decide) rfl (by simp [ev, upd, f0]) ?_
  refine RF.done (CF.seq (CF.seq (CF.region ?_)))
  -- region 2
  refine RF.move _ (.slice (some ⟨w.heap.size, 0, none⟩) s.size cap) rfl rfl (by decide) rfl (by simp [ev, upd, f0]) ?_
  refine RF.run (.int .i64 (s.size : Int)) rfl rfl (by decide) (x_len _ 25 (.slice (some ⟨w.heap.size, 0, none⟩) s.size cap) _ rfl (by simp [ev, upd]) (len25 _ _ _ _ _)) ?_
  refine RF.move _ (.int .i64 ((0 : Nat) : Int)) rfl rfl (by decide) rfl rfl ?_
  refine RF.done ?_
  refine CF.block ?_
  refine CF.loop (fun f w1 => ∃ k : Nat, k ≤ s.size ∧ f 10 = .int .i64 (k : Int) ∧ f 3 = .slice (some ⟨w.heap.size + 0, 0, none⟩) s.size cap ∧ f 8 = .slice (some ⟨w.heap.size + 0, 0, none⟩) s.size cap ∧ f 9 = .int .i64 (s.size : Int) ∧ Rep w w1 [.cells (rowF cap (mix (nums s) k)) 5 (cap, cap + 1)]) (fun f _ => s.size - (intOf (f 10)).toNat) ?_ ?_
  · refine ⟨0, Nat.zero_le _, by simp [upd], by simp [upd], by simp [upd], by simp [upd], ?_⟩
    have e : (fun i => (nums s).getD i 0) = mix (nums s) 0 := by funext i; simp [mix]
    rw [e] at r1
    exact r1
  · rintro g w2 ⟨k, hk, g10, g3, g8, g9, r2⟩
    refine roundU rfl hcap (by omega) hk (getD_byte (nums_byte s)) r2 g3 g8 g9 g10 (fun f2 hkn h3 => ?_) (fun f2 w3 hlt r3 h3 h8 h9 h10 => ?_)
    · subst hkn
      have hback : (convert 25 9 (.slice (some ⟨w.heap.size + 0, 0, none⟩) s.size cap)).run Yba.prog w2 = .ok (.string (strOfNums ((nums s).map upI))) w2 := by
        have := conv25 w2 (w.heap.size + 0) cap s.size (mix (nums s) s.size) 5 _ (r2.block (i := 0) rfl) hcap
        rw [this, ← nums_length s, mix_all]
      simp only [Nat.add_zero] at hback
      show CF _ _ _ _ _ _
      refine CF.seq (CF.region ?_)
      -- region 8
      refine RF.move _ (.slice (some ⟨w.heap.size + 0, 0, none⟩) s.size cap) rfl rfl (by decide) rfl (by simp [ev, upd, h3]) ?_
      refine RF.run (.string (strOfNums ((nums s).map upI))) rfl rfl (by decide) (by simp [execOp, ev, upd, eqGuard, h3, hback]) ?_
      refine RF.assign _ (.string (strOfNums ((nums s).map upI))) rfl rfl (by decide) rfl (by simp [ev, upd, h3]) ?_
      refine RF.done (CF.ret ?_)
      exact endF_tmp rfl ⟨_, rfl, by simp [upd], _, r2⟩
    · refine ⟨⟨k + 1, by omega, h10, h3, h8, h9, r3⟩, ?_⟩
      rw [h10, g10]
      simp [intOf]
      omega

end Go.Proofs.Ybulkebgs

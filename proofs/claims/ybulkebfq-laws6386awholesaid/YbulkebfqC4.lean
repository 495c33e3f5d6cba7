/-
  LawS6386CWhole: its first two loops.
-/
import Derived.Test.YbulkebfqC3
namespace Go.Proofs.Ybulkebfq
open Go.RowKit
set_option linter.unusedSimpArgs false
set_option linter.unusedVariables false

/-- The arguments' slots. -/
structure Par (f : Nat → Value) (a : Option Addr) (n c : Nat) (hd : Bool) (ds : Int) (hl : Bool) (lr kd ht rd fm : Int) (va : Option Addr) (vn vc : Nat) (sa : Option Addr) (sn sc : Nat) : Prop where
  f0 : f 0 = .slice a n c
  f1 : f 1 = .bool hd
  f2 : f 2 = .int .u8 ds
  f3 : f 3 = .bool hl
  f4 : f 4 = .int .u64 lr
  f5 : f 5 = .int .u8 kd
  f6 : f 6 = .int .u64 ht
  f7 : f 7 = .int .u64 rd
  f8 : f 8 = .int .i64 fm
  f9 : f 9 = .slice va vn vc
  f10 : f 10 = .slice sa sn sc

theorem Par.upd {f : Nat → Value} {a : Option Addr} {n c : Nat} {hd : Bool} {ds : Int} {hl : Bool} {lr kd ht rd fm : Int} {va : Option Addr} {vn vc : Nat} {sa : Option Addr} {sn sc : Nat} (h : Par f a n c hd ds hl lr kd ht rd fm va vn vc sa sn sc) {d : Nat} (hd' : 11 ≤ d) (v : Value) :
    Par (upd f d v) a n c hd ds hl lr kd ht rd fm va vn vc sa sn sc :=
  ⟨by rw [upd_ne _ _ _ _ (by omega)]; exact h.f0, by rw [upd_ne _ _ _ _ (by omega)]; exact h.f1, by rw [upd_ne _ _ _ _ (by omega)]; exact h.f2, by rw [upd_ne _ _ _ _ (by omega)]; exact h.f3, by rw [upd_ne _ _ _ _ (by omega)]; exact h.f4, by rw [upd_ne _ _ _ _ (by omega)]; exact h.f5, by rw [upd_ne _ _ _ _ (by omega)]; exact h.f6, by rw [upd_ne _ _ _ _ (by omega)]; exact h.f7, by rw [upd_ne _ _ _ _ (by omega)]; exact h.f8, by rw [upd_ne _ _ _ _ (by omega)]; exact h.f9, by rw [upd_ne _ _ _ _ (by omega)]; exact h.f10⟩

section
variable {a : Option Addr} {n c : Nat} {hd : Bool} {ds : Int} {hl : Bool} {lr kd ht rd fm : Int} {va : Option Addr} {vn vc : Nat} {sa : Option Addr} {sn sc : Nat}

/-- What holds at the head of the first loop. -/
def Inv1 (w0 : World) (zs : List Int) (a : Option Addr) (n c : Nat) (hd : Bool) (ds : Int) (hl : Bool) (lr kd ht rd fm : Int) (va : Option Addr) (vn vc : Nat) (sa : Option Addr) (sn sc : Nat) (k : Nat) (f : Nat → Value) (w : World) : Prop :=
  ∃ mo, Par f a n c hd ds hl lr kd ht rd fm va vn vc sa sn sc ∧ f 23 = .map (some w0.heap.size) ∧ f 24 = .slice (some ⟨w0.heap.size + 1, 0, none⟩) n n ∧ f 25 = .pointer (some ⟨w0.heap.size + 2, 0, none⟩) ∧
    Locks mo k (locksOf w0.heap.size zs k) ∧ Rep w0 w (mem1 mo w0.heap.size n zs k)

set_option maxHeartbeats 1000000 in
theorem round1 {w0 w : World} {zs : List Int} {k : Nat} {f : Nat → Value} {Q : Exit → (Nat → Value) → World → Prop} (x : Addr) (ha : 0 < n → a = some x) (hn : n ≤ 1048576) (hkn : k ≤ n)
    (hcell : ∀ {w' : World} {os : List Obj}, Rep w0 w' os → ∀ i, i < n → w'.cell? (x.add i) = some (.int .u8 (zs.getD i 0))) (hz : ∀ i, i < n → 0 ≤ zs.getD i 0)
    (hI : Inv1 w0 zs a n c hd ds hl lr kd ht rd fm va vn vc sa sn sc k f w) (f26 : f 26 = .int .i64 (k : Int))
    (hout : ∀ f', Inv1 w0 zs a n c hd ds hl lr kd ht rd fm va vn vc sa sn sc k f' w → k = n → Q (.exit 0) f' w)
    (hnext : ∀ f' w', k < n → Inv1 w0 zs a n c hd ds hl lr kd ht rd fm va vn vc sa sn sc (k + 1) f' w' → f' 26 = .int .i64 ((k + 1 : Nat) : Int) → Q .normal f' w') :
    CF Yba.prog 287 ((loops (Yba.f4.body.getD .skip)).getD 0 .skip) Q f w := by
  obtain ⟨mo, hP, f23, f24, f25, hL, hr⟩ := hI
  have f0 := hP.f0
  have hlen := mem1_length mo w0.heap.size n zs k
  have hwrap : IntKind.i64.wrap ((k : Int) + 1) = (k : Int) + 1 := IntWalk.i64_in _ (by omega)
  have htm : k < n → (zs[k]?.getD 0).tmod 4 = ((sel zs k : Nat) : Int) := fun hk => by
    have := hz k hk
    rw [sel_int, List.getD_eq_getElem?_getD] at *
    exact Int.tmod_eq_emod_of_nonneg this
  refine CF.seq (CF.seq (CF.region ?_))
  -- region 7
  refine RF.move _ (.int .i64 (k : Int)) rfl rfl (by decide) rfl (by simp [ev, upd, f0, f23, f24, f25, f26]) ?_
  refine RF.move _ (.slice a n c) rfl rfl (by decide) rfl (by simp [ev, upd, f0, f23, f24, f25, f26]) ?_
  refine RF.run (.int .i64 (n : Int)) rfl rfl (by decide) (x_len _ 22 (.slice a n c) _ rfl (by simp [ev, upd, f0, f23, f24, f25, f26]) (len22 _ _ _ _ _)) ?_
  refine RF.run (.bool (decide ((k : Int) < (n : Int)))) rfl rfl (by decide) (by simp [execOp, ev, upd, eqGuard, f0, f23, f24, f25, f26, go_sem]) ?_
  refine RF.done ?_
  by_cases hk : k < n
  · have ha' := ha (by omega)
    subst ha'
    refine CF.condT (by simp [ev, upd, hk]) (CF.skip ?_)
    show CF _ _ _ _ _ _
    refine CF.seq (CF.block (CF.seq (CF.region ?_)))
    -- region 9
    refine RF.move _ (.int .i64 (k : Int)) rfl rfl (by decide) rfl (by simp [ev, upd, f0, f23, f24, f25, f26]) ?_
    refine RF.run (.int .u64 (k : Int)) rfl rfl (by decide) (by simp [execOp, ev, upd, eqGuard, f0, f23, f24, f25, f26, conv38 _ k (by omega)]) ?_
    refine RF.run (.agg (msg k)) rfl rfl (by decide) (by simp [execOp, ev, upd, eqGuard, f0, f23, f24, f25, f26, build44_2]) ?_
    refine RF.box 44 _ (msg k) hr rfl rfl (by decide) rfl (by simp [ev, upd, f0, f23, f24, f25, f26]) (fun w1 r1 => ?_)
    rw [hlen]
    refine RF.assign _ (.pointer (some ⟨w0.heap.size + (3 + 3 * k), 0, none⟩)) rfl rfl (by decide) rfl (by simp [ev, upd, f0, f23, f24, f25, f26]) ?_
    refine RF.done ?_
    refine CF.seq (CF.region ?_)
    -- region 10
    refine RF.move _ (.slice (some ⟨w0.heap.size + 1, 0, none⟩) n n) rfl rfl (by decide) rfl (by simp [ev, upd, f0, f23, f24, f25, f26]) ?_
    refine RF.move _ (.int .i64 (k : Int)) rfl rfl (by decide) rfl (by simp [ev, upd, f0, f23, f24, f25, f26]) ?_
    refine RF.move _ (.pointer (some ⟨w0.heap.size + (3 + 3 * k), 0, none⟩)) rfl rfl (by decide) rfl (by simp [ev, upd, f0, f23, f24, f25, f26]) ?_
    refine RF.run (.pointer (some ⟨w0.heap.size + 1, k, none⟩)) rfl rfl (by decide) (by simp [execOp, ev, upd, eqGuard, f0, f23, f24, f25, f26, index35 _ _ n n k hk]) ?_
    refine RF.store 37 37 _ _ 1 k (ptrArr w0.heap.size n k) (.pointer (some ⟨w0.heap.size + (3 + 3 * k), 0, none⟩)) r1 rfl (by rw [ptrArr_size]; exact hk) rfl rfl rfl (by simp [ev, upd, f0, f23, f24, f25, f26]) (by simp [ev, upd, f0, f23, f24, f25, f26]) rfl rfl size37 (fun w2 r2 => ?_)
    refine RF.done ?_
    refine CF.seq (CF.region ?_)
    -- region 11
    refine RF.move _ (.map (some w0.heap.size)) rfl rfl (by decide) rfl (by simp [ev, upd, f0, f23, f24, f25, f26]) ?_
    refine RF.move _ (.slice (some x) n c) rfl rfl (by decide) rfl (by simp [ev, upd, f0, f23, f24, f25, f26]) ?_
    refine RF.move _ (.int .i64 (k : Int)) rfl rfl (by decide) rfl (by simp [ev, upd, f0, f23, f24, f25, f26]) ?_
    refine RF.run (.pointer (some (x.add k))) rfl rfl (by decide) (by simp [execOp, ev, upd, eqGuard, f0, f23, f24, f25, f26, index22 _ x n c k hk]) ?_
    refine RF.loadA 5 _ _ (x.add k) (.int .u8 (zs.getD k 0)) rfl rfl (by decide) rfl Yba.underlying5 rfl (by simp [ev, upd, f0, f23, f24, f25, f26]) (hcell r2 k hk) ?_
    refine RF.call 8 #[.int .u8 (zs.getD k 0)] rfl rfl (by decide) (x_call 8 _ _ _ _ rfl Yba.func8 (by kernel_rfl) rfl (by simp [ev, upd, f0, f23, f24, f25, f26]) rfl) (dig_any _ _ (hz k hk)) (fun v w3 hv => ?_)
    obtain ⟨rfl, r3⟩ := hv
    rw [← sel_int]
    rw [← sel_int] at r3
    have r4 := r2.trans r3
    refine RF.move _ (.pointer (some ⟨w0.heap.size + (3 + 3 * k), 0, none⟩)) rfl rfl (by decide) rfl (by simp [ev, upd, f0, f23, f24, f25, f26]) ?_
    refine RF.locksPut _ _ _ mo k (sel zs k) (w0.heap.size + (3 + 3 * k)) _ r4 rfl hL (sel_lt zs k) (by unfold maxLen; omega) rfl rfl rfl (by simp [ev, upd, f0, f23, f24, f25, f26]) (by simp [ev, upd, f0, f23, f24, f25, f26]) (by simp [ev, upd, f0, f23, f24, f25, f26]) (fun w5 mo5 r5 L5 => ?_)
    refine RF.done ?_
    refine CF.region ?_
    -- region 12
    refine RF.move _ (.slice (some x) n c) rfl rfl (by decide) rfl (by simp [ev, upd, f0, f23, f24, f25, f26]) ?_
    refine RF.move _ (.int .i64 (k : Int)) rfl rfl (by decide) rfl (by simp [ev, upd, f0, f23, f24, f25, f26]) ?_
    refine RF.run (.pointer (some (x.add k))) rfl rfl (by decide) (by simp [execOp, ev, upd, eqGuard, f0, f23, f24, f25, f26, index22 _ x n c k hk]) ?_
    refine RF.loadA 5 _ _ (x.add k) (.int .u8 (zs.getD k 0)) rfl rfl (by decide) rfl Yba.underlying5 rfl (by simp [ev, upd, f0, f23, f24, f25, f26]) (hcell r5 k hk) ?_
    refine RF.run (.int .u8 (sel zs k)) rfl rfl (by decide) (by simp [execOp, ev, upd, eqGuard, f0, f23, f24, f25, f26, go_sem, htm hk]) ?_
    refine RF.move _ (.int .i64 (k : Int)) rfl rfl (by decide) rfl (by simp [ev, upd, f0, f23, f24, f25, f26]) ?_
    refine RF.run (.pointer (some ⟨w0.heap.size + 2, sel zs k, none⟩)) rfl rfl (by decide) (by simp [execOp, ev, upd, eqGuard, f0, f23, f24, f25, f26, index36 _ _ _ _ (sel_lt zs k)]) ?_
    refine RF.store 3 36 _ _ 2 (sel zs k) (lastArr zs k) (.int .i64 (k : Int)) r5 rfl (sel_lt zs k) rfl rfl rfl (by simp [ev, upd, f0, f23, f24, f25, f26]) (by simp [ev, upd, f0, f23, f24, f25, f26]) rfl rfl size3 (fun w6 r6 => ?_)
    refine RF.nil ?_
    show CF _ _ _ _ _ _
    refine CF.region ?_
    -- region 8
    refine RF.move _ (.int .i64 (k : Int)) rfl rfl (by decide) rfl (by simp [ev, upd, f0, f23, f24, f25, f26]) ?_
    refine RF.run (.int .i64 ((k + 1 : Nat) : Int)) rfl rfl (by decide) (by simp [execOp, ev, upd, eqGuard, f0, f23, f24, f25, f26, go_sem, hwrap]) ?_
    refine RF.assign _ (.int .i64 ((k + 1 : Nat) : Int)) rfl rfl (by decide) rfl (by simp [ev, upd, f0, f23, f24, f25, f26]) ?_
    refine RF.nil ?_
    refine hnext _ w6 hk ⟨mo5, ?_, by simp [upd, f23], by simp [upd, f24], by simp [upd, f25], ?_, ?_⟩ (by simp [upd])
    · repeat (refine Par.upd ?_ (by decide) _)
      exact hP
    · rw [← locksOf_succ]
      have e : w0.heap.size + (3 + 3 * k) = w0.heap.size + 3 + 3 * k := by omega
      rw [e] at L5
      exact L5
    · have e : w0.heap.size + (3 + 3 * k) = w0.heap.size + 3 + 3 * k := by omega
      rw [e] at r6
      have q : mem1 mo5 w0.heap.size n zs (k + 1) = mo5 :: .cells ((ptrArr w0.heap.size n k).setIfInBounds k (.pointer (some ⟨w0.heap.size + 3 + 3 * k, 0, none⟩))) 37 :: .cells ((lastArr zs k).setIfInBounds (sel zs k) (.int .i64 (k : Int))) 36 :: (rds zs k ++ [.cells (msg k) 44, .cells (dig (sel zs k)) 45, .cells (dig (sel zs k)) 45]) := by
        rw [ptrArr_set, lastArr_set]; rfl
      rw [q]
      have q2 : rds zs k ++ [Obj.cells (msg k) 44] ++ [Obj.cells (dig (sel zs k)) 45, Obj.cells (dig (sel zs k)) 45] = rds zs k ++ [.cells (msg k) 44, .cells (dig (sel zs k)) 45, .cells (dig (sel zs k)) 45] := by simp
      rw [← q2]
      exact r6
  · have hkn' : k = n := by omega
    refine CF.condF (by simp [ev, upd, hk]) (CF.exit ?_)
    refine hout _ ⟨mo, ?_, by simp [upd, f23], by simp [upd, f24], by simp [upd, f25], hL, hr⟩ hkn'
    repeat (refine Par.upd ?_ (by decide) _)
    exact hP

end
end Go.Proofs.Ybulkebfq

/-
  zzs6389bitoa (function 6): the law's own digit loop gives the decimal numeral 'Lib.itoa'.
-/
import Derived.Test.YbulkebhgDoorRuns
import Derived.Laws.IdiomStrings
import Derived.Laws.BytesArg
import Derived.Laws.OwnMore
import Derived.WalkSpells
import Derived.Laws.Bits64
import Derived.Lib.ItoaLen
namespace Go.Proofs.YbulkebhgDoor
open Go.RowKit
set_option linter.unusedSimpArgs false
set_option linter.unusedVariables false

theorem then_ret (K : (Nat → Value) → World → Prop) (Q : Exit → (Nat → Value) → World → Prop) (f : Nat → Value) (w : World) : thenF K Q .ret f w = Q .ret f w := rfl

/-! ### plain: rows of bytes -/
def rowF (n : Nat) (g : Nat → Int) : Array Value := ((List.range n).map fun i => Value.int .u8 (g i)).toArray
theorem rowF_size (n : Nat) (g : Nat → Int) : (rowF n g).size = n := by simp [rowF]
theorem rowF_at (n : Nat) (g : Nat → Int) (i : Nat) (h : i < n) : (rowF n g)[i]? = some (.int .u8 (g i)) := by simp [rowF, h, List.getElem?_range]
theorem rowF_set (n : Nat) (g : Nat → Int) (k : Nat) (v : Int) : (rowF n g).setIfInBounds k (.int .u8 v) = rowF n (fun i => if i = k then v else g i) := by
  apply Array.ext_getElem?
  intro i
  by_cases h : i < n
  · by_cases e : i = k
    · subst e
      rw [rowF_at n _ i h]
      simp [rowF_size, h]
    · rw [Array.getElem?_setIfInBounds_ne (Ne.symm e), rowF_at n _ i h, rowF_at n _ i h]
      simp [e]
  · have h1 : ((rowF n g).setIfInBounds k (.int .u8 v))[i]? = none := by rw [Array.getElem?_eq_none_iff]; simp [rowF_size]; omega
    have h2 : (rowF n (fun i => if i = k then v else g i))[i]? = none := by rw [Array.getElem?_eq_none_iff]; simp [rowF_size]; omega
    rw [h1, h2]

/-! ### plain: the digits -/
/-- The decimal digit of u at place j from the right, as a number. -/
def dgN (u j : Nat) : Nat := 48 + u / 10 ^ j % 10
/-- The row's bytes after k digits of u. -/
def dgRow (u k i : Nat) : Int := if 24 - k ≤ i then (dgN u (23 - i) : Int) else 0
theorem dgRow_zero (u i : Nat) (h : i < 24) : dgRow u 0 i = 0 := by unfold dgRow; rw [if_neg (by omega)]
theorem dgRow_step (u k m i : Nat) (h : m + (k + 1) = 24) (hi : i < 24) : (if i = m then (dgN u k : Int) else dgRow u k i) = dgRow u (k + 1) i := by
  unfold dgRow
  by_cases e : i = m
  · subst e
    rw [if_pos rfl, if_pos (by omega), show 23 - i = k by omega]
  · rw [if_neg e]
    have : (24 - k ≤ i) = (24 - (k + 1) ≤ i) := by apply propext; omega
    simp only [this]
theorem rowF_congr {n : Nat} {g g' : Nat → Int} (h : ∀ i, i < n → g i = g' i) : rowF n g = rowF n g' := by
  unfold rowF
  rw [List.map_congr_left (fun i hi => by rw [h i (List.mem_range.1 hi)])]

theorem nd_le : ∀ (k u : Nat), u < 10 ^ (k + 1) → Lib.nDigits u ≤ k + 1
  | 0, u, h => by rw [Lib.nDigits_small (by simpa using h)]; omega
  | k + 1, u, h => by
    by_cases h1 : u < 10
    · rw [Lib.nDigits_small h1]; omega
    · rw [Lib.nDigits_big h1]
      have := nd_le k (u / 10) (by rw [Nat.pow_succ] at h; omega)
      omega
theorem nd_last {u k : Nat} (hk : k < Lib.nDigits u) : u / 10 ^ (k + 1) = 0 ↔ k + 1 = Lib.nDigits u := by
  have hp : 0 < 10 ^ (k + 1) := Nat.pow_pos (by decide)
  constructor
  · intro h
    have h1 : u < 10 ^ (k + 1) := by
      rcases Nat.lt_or_ge u (10 ^ (k + 1)) with h2 | h2
      · exact h2
      · have := Nat.div_pos h2 hp; omega
    have := nd_le k u h1
    omega
  · intro h
    rw [h]
    exact Nat.div_eq_of_lt (Lib.lt_pow_nDigits u)
theorem div_step (u k : Nat) : u / 10 ^ k / 10 = u / 10 ^ (k + 1) := by rw [Nat.div_div_eq_div_mul, Nat.pow_succ]

/-- The row's last bytes are the numeral. -/
theorem digits_list (u : Nat) (h20 : Lib.nDigits u ≤ 20) :
    ((List.range (Lib.nDigits u)).map fun j => UInt8.ofNat (dgRow u (Lib.nDigits u) (24 - Lib.nDigits u + j)).toNat) = Lib.decDigits u := by
  rw [Lib.decDigits_eq]
  refine List.map_congr_left fun j hj => ?_
  have hj' := List.mem_range.1 hj
  unfold dgRow
  rw [if_pos (by omega), show 23 - (24 - Lib.nDigits u + j) = Lib.nDigits u - 1 - j by omega]
  rfl

/-! ### runs -/
theorem size5 : (Ybad.prog.info? 5).map (·.size) = some 1 := by kernel_rfl
theorem zero32 : (Ybad.prog.info? 32).map (·.zero) = some (some (.agg (rowF 24 fun _ => 0))) := by kernel_rfl
theorem conv28 (w : World) (b off n cap : Nat) (g : Nat → Int) (t : TypeId) (fr : Nat × Nat) (hb : w.heap[b]? = some (.cells (rowF 24 g) t fr)) (hn : off + n ≤ 24) :
    (convert 28 9 (.slice (some ⟨b, off, none⟩) n cap)).run Ybad.prog w = .ok (.string (strOfNums ((List.range n).map fun j => g (off + j)))) w := by
  refine run_convert_bytes_arg w 28 5 Ybad.underlying28 Ybad.underlying5 b off n cap ((List.range n).map fun j => g (off + j)) (by simp) (fun i hi => ?_) 9 Ybad.underlying9
  rw [cell_at hb (rowF_at 24 g (off + i) (by omega))]
  simp [List.getD, hi, List.getElem?_range]
theorem index32 (w : World) (b k : Nat) (h : k < 24) : (Instr.indexAt 32 (.pointer (some ⟨b, 0, none⟩)) (.int .i64 (k : Int))).run Ybad.prog w = .ok (.pointer (some ⟨b, k, none⟩)) w := by
  have h1 : (0 : Int) ≤ k ∧ (k : Int) < 24 := by omega
  simp [go_sem, Ybad.underlying32, h1]
theorem slice32 (w : World) (b k : Nat) (h : k < 24) : (Instr.sliceAt 32 (.pointer (some ⟨b, 0, none⟩)) (some (.int .i64 (k : Int))) none none).run Ybad.prog w = .ok (.slice (some ⟨b, k, none⟩) (24 - k) (24 - k)) w := by
  have h1 : (0 : Int) ≤ k ∧ (k : Int) ≤ 24 := by omega
  have h2 : ¬ 24 = k := by omega
  simp [go_sem, Ybad.underlying32, h1, h2]

/-! ### the loop's round -/
set_option maxHeartbeats 1000000 in
theorem roundI {w0 w : World} {u k m x : Nat} {neg : Bool} {f : Nat → Value} {Q : Exit → (Nat → Value) → World → Prop} (hu : u < 18446744073709551616) (hk : k < Lib.nDigits u) (hm : m + k = 24) (hx : x = u / 10 ^ k)
    (hr : Rep w0 w [.cells (rowF 24 (dgRow u k)) 32 (0, 0)]) (f3 : f 3 = .pointer (some ⟨w0.heap.size + 0, 0, none⟩)) (f4 : f 4 = .int .i64 (m : Int)) (f5 : f 5 = .int .u64 (x : Int)) (f6 : f 6 = .bool neg)
    (hout : ∀ f' w' m', m' + Lib.nDigits u = 24 → Rep w0 w' [.cells (rowF 24 (dgRow u (Lib.nDigits u))) 32 (0, 0)] → f' 3 = .pointer (some ⟨w0.heap.size + 0, 0, none⟩) → f' 4 = .int .i64 (m' : Int) → f' 6 = .bool neg → Q (.exit 0) f' w')
    (hnext : ∀ f' w' m' x', k + 1 < Lib.nDigits u → m' + (k + 1) = 24 → x' = u / 10 ^ (k + 1) → Rep w0 w' [.cells (rowF 24 (dgRow u (k + 1))) 32 (0, 0)] → f' 3 = .pointer (some ⟨w0.heap.size + 0, 0, none⟩) → f' 4 = .int .i64 (m' : Int) → f' 5 = .int .u64 (x' : Int) → f' 6 = .bool neg → Q .normal f' w') :
    CF Ybad.prog 34 ((loops (Ybad.f6.body.getD .skip)).getD 0 .skip) Q f w := by
  have h20 := Lib.nDigits_le20 u hu
  have hxu : x ≤ u := by rw [hx]; exact Nat.div_le_self _ _
  obtain ⟨m', hm'⟩ : ∃ m', m = m' + 1 := ⟨m - 1, by omega⟩
  subst hm'
  have hw1 : IntKind.i64.wrap (((m' + 1 : Nat) : Int) - 1) = (m' : Int) := by rw [show (((m' + 1 : Nat) : Int) - 1) = (m' : Int) by omega]; exact IntWalk.i64_in _ (by omega)
  have hdg : dgN u k = 48 + x % 10 := by unfold dgN; rw [hx]
  have hrem : ∀ w, (binOp .rem 33 (.int .u64 (x : Int)) (.int .u64 10)).run Ybad.prog w = .ok (.int .u64 ((x % 10 : Nat) : Int)) w := by
    intro w
    simp [go_sem, Ybad.underlying33]
    exact Int.tmod_eq_emod_of_nonneg (by omega)
  have hquo : ∀ w, (binOp .quo 33 (.int .u64 (x : Int)) (.int .u64 10)).run Ybad.prog w = .ok (.int .u64 ((x / 10 : Nat) : Int)) w := by
    intro w
    simp [go_sem, Ybad.underlying33]
    exact IntWalk.u64_in _ (by omega)
  have hadd : ∀ w, (binOp .add 33 (.int .u64 48) (.int .u64 ((x % 10 : Nat) : Int))).run Ybad.prog w = .ok (.int .u64 ((dgN u k : Nat) : Int)) w := by
    intro w
    rw [hdg]
    simp [go_sem, Ybad.underlying33]
    exact IntWalk.u64_in _ (by omega)
  have hcv : ∀ w, (convert 33 5 (.int .u64 ((dgN u k : Nat) : Int))).run Ybad.prog w = .ok (.int .u8 ((dgN u k : Nat) : Int)) w := by
    intro w
    have e : IntKind.u8.wrap ((dgN u k : Nat) : Int) = ((dgN u k : Nat) : Int) := IntWalk.u8_in _ (by rw [hdg]; omega)
    simp [go_sem, Ybad.underlying33, Ybad.underlying5, e]
  obtain ⟨r, hrr⟩ : ∃ r, r = x % 10 := ⟨_, rfl⟩
  obtain ⟨q, hq⟩ : ∃ q, q = x / 10 := ⟨_, rfl⟩
  obtain ⟨D, hD⟩ : ∃ D, D = dgN u k := ⟨_, rfl⟩
  rw [← hrr] at hrem hadd
  rw [← hq] at hquo
  rw [← hD] at hadd hcv
  have hix := fun w => index32 w (w0.heap.size + 0) m' (by omega)
  simp only [Nat.add_zero] at hix
  refine CF.block (CF.seq (CF.region ?_))
  -- region 7
  refine RF.move _ (.int .i64 ((m' + 1 : Nat) : Int)) rfl rfl (by decide) rfl (by simp [ev, upd, f3, f4, f5, f6]) ?_
  refine RF.run (.int .i64 (m' : Int)) rfl rfl (by decide) (by simp [execOp, ev, upd, eqGuard, f3, f4, f5, f6, go_sem]; simpa using hw1) ?_
  refine RF.assign _ (.int .i64 (m' : Int)) rfl rfl (by decide) rfl (by simp [ev, upd, f3, f4, f5, f6]) ?_
  refine RF.done (CF.seq (CF.region ?_))
  -- region 8
  refine RF.move _ (.int .i64 (m' : Int)) rfl rfl (by decide) rfl (by simp [ev, upd, f3, f4, f5, f6]) ?_
  refine RF.move _ (.int .u64 (x : Int)) rfl rfl (by decide) rfl (by simp [ev, upd, f3, f4, f5, f6]) ?_
  refine RF.run (.int .u64 (r : Int)) rfl rfl (by decide) (by simp [execOp, ev, upd, eqGuard, f3, f4, f5, f6, hrem]) ?_
  refine RF.run (.int .u64 (D : Int)) rfl rfl (by decide) (by simp [execOp, ev, upd, eqGuard, f3, f4, f5, f6, hadd]) ?_
  refine RF.run (.int .u8 (D : Int)) rfl rfl (by decide) (by simp [execOp, ev, upd, eqGuard, f3, f4, f5, f6, hcv]) ?_
  refine RF.run (.pointer (some ⟨w0.heap.size + 0, m', none⟩)) rfl rfl (by decide) (by simp [execOp, ev, upd, eqGuard, f3, f4, f5, f6, hix]) ?_
  refine RF.store 5 32 _ _ 0 m' (rowF 24 (dgRow u k)) (.int .u8 (D : Int)) hr rfl (by rw [rowF_size]; omega) rfl rfl rfl (by simp [ev, upd, f3, f4, f5, f6]) (by simp [ev, upd, f3, f4, f5, f6]) rfl rfl size5 (fun w1 r1 => ?_)
  have e1 : (rowF 24 (dgRow u k)).setIfInBounds m' (.int .u8 (D : Int)) = rowF 24 (dgRow u (k + 1)) := by
    rw [rowF_set]
    refine rowF_congr fun i hi => ?_
    rw [hD]
    exact dgRow_step u k m' i (by omega) hi
  rw [e1] at r1
  refine RF.done (CF.seq (CF.region ?_))
  -- region 9
  refine RF.move _ (.int .u64 (x : Int)) rfl rfl (by decide) rfl (by simp [ev, upd, f3, f4, f5, f6]) ?_
  refine RF.run (.int .u64 (q : Int)) rfl rfl (by decide) (by simp [execOp, ev, upd, eqGuard, f3, f4, f5, f6, hquo]) ?_
  refine RF.assign _ (.int .u64 (q : Int)) rfl rfl (by decide) rfl (by simp [ev, upd, f3, f4, f5, f6]) ?_
  refine RF.done (CF.seq (CF.region ?_))
  -- region 10
  refine RF.move _ (.int .u64 (q : Int)) rfl rfl (by decide) rfl (by simp [ev, upd, f3, f4, f5, f6]) ?_
  have hqb : ((q : Int) == 0) = decide (q = 0) := by
    by_cases h : q = 0
    · simp [h]
    · have : ¬ (q : Int) = 0 := by omega
      simp [h, this]
  refine RF.run (.bool (decide (q = 0))) rfl rfl (by decide) (by simp [execOp, ev, upd, eqGuard, f3, f4, f5, f6, go_sem, hqb]) ?_
  have hqd : q = u / 10 ^ (k + 1) := by rw [hq, hx, div_step]
  refine RF.done ?_
  by_cases h0 : q = 0
  · have hl : k + 1 = Lib.nDigits u := (nd_last hk).1 (by rw [← hqd]; exact h0)
    refine CF.condT (by simp [ev, upd, h0]) (CF.exit ?_)
    rw [hl] at r1
    exact hout _ w1 m' (by omega) r1 (by simp [upd, f3]) (by simp [upd]) (by simp [upd, f6])
  · have hl : k + 1 ≠ Lib.nDigits u := fun h => h0 (by rw [hqd]; exact (nd_last hk).2 h)
    refine CF.condF (by simp [ev, upd, h0]) (CF.skip ?_)
    exact hnext _ w1 m' q (by omega) (by omega) hqd r1 (by simp [upd, f3]) (by simp [upd]) (by simp [upd]) (by simp [upd, f6])

/-! ### the function -/
set_option maxHeartbeats 1000000 in
/-- What follows the loop: the sign, and the string off the row's end. -/
theorem tailI {w0 w : World} {n : Int} {u m : Nat} {neg : Bool} {f : Nat → Value} (hu : u < 18446744073709551616) (hm : m + Lib.nDigits u = 24) (hneg : neg = decide (n < 0)) (hn : n = if neg then -(u : Int) else (u : Int))
    (hr : Rep w0 w [.cells (rowF 24 (dgRow u (Lib.nDigits u))) 32 (0, 0)]) (f3 : f 3 = .pointer (some ⟨w0.heap.size + 0, 0, none⟩)) (f4 : f 4 = .int .i64 (m : Int)) (f6 : f 6 = .bool neg) :
    CF Ybad.prog 34 (tailFrom 11 (Ybad.f6.body.getD .skip)) (endF Ybad.prog Ybad.f6 fun e w' => ∃ v, e = .returned v ∧ v = .string ⟨(Lib.itoa n).toArray⟩ ∧ ∃ o, Rep w0 w' [o]) f w := by
  have h20 := Lib.nDigits_le20 u hu
  have h1 := Lib.nDigits_pos u
  refine CF.seq (CF.seq (CF.region ?_))
  -- region 11
  refine RF.move _ (.bool neg) rfl rfl (by decide) rfl (by simp [ev, upd, f3, f4, f6]) ?_
  refine RF.done ?_
  cases neg with
  | false =>
    have hn' : n = (u : Int) := by simpa using hn
    have hsl := fun w => slice32 w (w0.heap.size + 0) m (by omega)
    have hcv := conv28 w (w0.heap.size + 0) m (24 - m) (24 - m) _ 32 (0, 0) (hr.block (i := 0) rfl) (by omega)
    have es : strOfNums ((List.range (24 - m)).map fun j => dgRow u (Lib.nDigits u) (m + j)) = ⟨(Lib.itoa n).toArray⟩ := by
      rw [hn', Lib.itoa_nonneg, ← digits_list u h20, strOfNums, List.map_map, show m = 24 - Lib.nDigits u by omega, show 24 - (24 - Lib.nDigits u) = Lib.nDigits u by omega]
      rfl
    rw [es] at hcv
    simp only [Nat.add_zero] at hsl hcv
    refine CF.condF (by simp [ev, upd]) (CF.skip ?_)
    show CF _ _ _ _ _ _
    refine CF.seq (CF.region ?_)
    -- region 14
    refine RF.move _ (.int .i64 (m : Int)) rfl rfl (by decide) rfl (by simp [ev, upd, f3, f4, f6]) ?_
    refine RF.run (.slice (some ⟨w0.heap.size, m, none⟩) (24 - m) (24 - m)) rfl rfl (by decide) (by simp [execOp, ev, upd, eqGuard, f3, f4, f6, hsl]) ?_
    refine RF.run (.string ⟨(Lib.itoa n).toArray⟩) rfl rfl (by decide) (by simp [execOp, ev, upd, eqGuard, f3, f4, f6, hcv]) ?_
    refine RF.assign _ (.string ⟨(Lib.itoa n).toArray⟩) rfl rfl (by decide) rfl (by simp [ev, upd, f3, f4, f6]) ?_
    refine RF.done (CF.ret ?_)
    exact endF_tmp rfl ⟨_, rfl, by simp [upd], _, hr⟩
  | true =>
    have hn' : n = -(u : Int) := by simpa using hn
    have hn0 : n < 0 := by simpa using hneg.symm
    obtain ⟨m', hm'⟩ : ∃ m', m = m' + 1 := ⟨m - 1, by omega⟩
    subst hm'
    have hw1 : IntKind.i64.wrap (((m' + 1 : Nat) : Int) - 1) = (m' : Int) := by rw [show (((m' + 1 : Nat) : Int) - 1) = (m' : Int) by omega]; exact IntWalk.i64_in _ (by omega)
    have hix := fun w => index32 w (w0.heap.size + 0) m' (by omega)
    have hsl := fun w => slice32 w (w0.heap.size + 0) m' (by omega)
    simp only [Nat.add_zero] at hsl hix
    refine CF.condT (by simp [ev, upd]) (CF.seq (CF.region ?_))
    -- region 12
    refine RF.move _ (.int .i64 ((m' + 1 : Nat) : Int)) rfl rfl (by decide) rfl (by simp [ev, upd, f3, f4, f6]) ?_
    refine RF.run (.int .i64 (m' : Int)) rfl rfl (by decide) (by simp [execOp, ev, upd, eqGuard, f3, f4, f6, go_sem]; simpa using hw1) ?_
    refine RF.assign _ (.int .i64 (m' : Int)) rfl rfl (by decide) rfl (by simp [ev, upd, f3, f4, f6]) ?_
    refine RF.done (CF.region ?_)
    -- region 13
    refine RF.move _ (.int .i64 (m' : Int)) rfl rfl (by decide) rfl (by simp [ev, upd, f3, f4, f6]) ?_
    refine RF.run (.pointer (some ⟨w0.heap.size + 0, m', none⟩)) rfl rfl (by decide) (by simp [execOp, ev, upd, eqGuard, f3, f4, f6, hix]) ?_
    refine RF.store 5 32 _ _ 0 m' (rowF 24 (dgRow u (Lib.nDigits u))) (.int .u8 45) hr rfl (by rw [rowF_size]; omega) rfl rfl rfl (by simp [ev, upd, f3, f4, f6]) (by simp [ev, upd, f3, f4, f6]) rfl rfl size5 (fun w1 r1 => ?_)
    rw [rowF_set] at r1
    have hcv := conv28 w1 (w0.heap.size + 0) m' (24 - m') (24 - m') _ 32 (0, 0) (r1.block (i := 0) rfl) (by omega)
    have es : strOfNums ((List.range (24 - m')).map fun j => if m' + j = m' then 45 else dgRow u (Lib.nDigits u) (m' + j)) = ⟨(Lib.itoa n).toArray⟩ := by
      have el : ((List.range (24 - m')).map fun j => if m' + j = m' then (45 : Int) else dgRow u (Lib.nDigits u) (m' + j)).map (fun n => UInt8.ofNat n.toNat) = 45 :: Lib.decDigits u := by
        rw [← digits_list u h20, List.map_map, show 24 - m' = Lib.nDigits u + 1 by omega, List.range_succ_eq_map, List.map_cons, List.map_map]
        refine List.cons_eq_cons.2 ⟨?_, List.map_congr_left fun j hj => ?_⟩
        · simp
        · simp only [Function.comp]
          rw [if_neg (by omega), show m' + Nat.succ j = 24 - Lib.nDigits u + j by omega]
      rw [hn', Lib.itoa_neg u (by omega)]
      exact congrArg (fun l : List UInt8 => (⟨l.toArray⟩ : ByteArray)) el
    rw [es] at hcv
    simp only [Nat.add_zero] at hcv
    refine RF.nil ?_
    show CF _ _ _ _ _ _
    refine CF.seq (CF.region ?_)
    -- region 14
    refine RF.move _ (.int .i64 (m' : Int)) rfl rfl (by decide) rfl (by simp [ev, upd, f3, f4, f6]) ?_
    refine RF.run (.slice (some ⟨w0.heap.size, m', none⟩) (24 - m') (24 - m')) rfl rfl (by decide) (by simp [execOp, ev, upd, eqGuard, f3, f4, f6, hsl]) ?_
    refine RF.run (.string ⟨(Lib.itoa n).toArray⟩) rfl rfl (by decide) (by simp [execOp, ev, upd, eqGuard, f3, f4, f6, hcv]) ?_
    refine RF.assign _ (.string ⟨(Lib.itoa n).toArray⟩) rfl rfl (by decide) rfl (by simp [ev, upd, f3, f4, f6]) ?_
    refine RF.done (CF.ret ?_)
    exact endF_tmp rfl ⟨_, rfl, by simp [upd], _, r1⟩

set_option maxHeartbeats 1000000 in
/-- The loop and what follows it. -/
theorem loopI {w0 w : World} {n : Int} {u : Nat} {neg : Bool} {f : Nat → Value} (hu : u < 18446744073709551616) (hneg : neg = decide (n < 0)) (hn : n = if neg then -(u : Int) else (u : Int))
    (hr : Rep w0 w [.cells (rowF 24 fun _ => 0) 32 (0, 0)]) (f3 : f 3 = .pointer (some ⟨w0.heap.size + 0, 0, none⟩)) (f4 : f 4 = .int .i64 24) (f5 : f 5 = .int .u64 (u : Int)) (f6 : f 6 = .bool neg) :
    CF Ybad.prog 34 (tailFrom 7 (Ybad.f6.body.getD .skip)) (endF Ybad.prog Ybad.f6 fun e w' => ∃ v, e = .returned v ∧ v = .string ⟨(Lib.itoa n).toArray⟩ ∧ ∃ o, Rep w0 w' [o]) f w := by
  refine CF.seq (CF.block ?_)
  refine CF.loop (fun f w1 => ∃ k m x : Nat, k < Lib.nDigits u ∧ m + k = 24 ∧ x = u / 10 ^ k ∧ Rep w0 w1 [.cells (rowF 24 (dgRow u k)) 32 (0, 0)] ∧ f 3 = .pointer (some ⟨w0.heap.size + 0, 0, none⟩) ∧ f 4 = .int .i64 (m : Int) ∧ f 5 = .int .u64 (x : Int) ∧ f 6 = .bool neg) (fun f _ => (intOf (f 4)).toNat) ?_ ?_
  · refine ⟨0, 24, u, Lib.nDigits_pos u, rfl, by simp, ?_, f3, f4, f5, f6⟩
    rw [rowF_congr (fun i hi => dgRow_zero u i hi)]
    exact hr
  · rintro g w1 ⟨k, m, x, hk, hm, hx, r1, g3, g4, g5, g6⟩
    refine roundI hu hk hm hx r1 g3 g4 g5 g6 (fun f2 w2 m' hm' r2 h3 h4 h6 => ?_) (fun f2 w2 m' x' hk' hm' hx' r2 h3 h4 h5 h6 => ?_)
    · exact tailI hu hm' hneg hn r2 h3 h4 h6
    · refine ⟨⟨k + 1, m', x', hk', hm', hx', r2, h3, h4, h5, h6⟩, ?_⟩
      rw [h4, g4]
      simp [intOf]
      omega

set_option maxHeartbeats 1000000 in
/-- zzs6389bitoa gives the decimal numeral. -/
theorem bitoa_any (n : Int) (w : World) (h0 : -9223372036854775808 ≤ n) (h1 : n ≤ 9223372036854775807) :
    Calls Ybad.prog 6 #[.int .i64 n] w fun e w' => ∃ v, e = .returned v ∧ v = .string ⟨(Lib.itoa n).toArray⟩ ∧ ∃ o, Rep w w' [o] := by
  refine calls_of_CF 34 Ybad.func6 rfl rfl (by simp) ?_
  intro f hf
  have f0 : f 0 = .int .i64 n := start_at hf 0 (by simp)
  clear hf
  refine CF.seq (CF.region ?_)
  -- region 0
  refine RF.assign _ (.string ⟨#[]⟩) rfl rfl (by decide) rfl (by simp [ev, upd, f0]) ?_
  refine RF.done (CF.seq (CF.region ?_))
  -- region 1
  refine RF.alloc 32 _ (Rep.refl w) rfl rfl (by decide) rfl zero32 (fun w1 r1 => ?_)
  have r1' : Rep w w1 [.cells (rowF 24 fun _ => 0) 32 (0, 0)] := r1
  clear r1
  refine RF.done (CF.seq (CF.region ?_))
  -- region 2
  refine RF.assign _ (.int .i64 24) rfl rfl (by decide) rfl (by simp [ev, upd, f0]) ?_
  refine RF.done (CF.seq (CF.region ?_))
  by_cases hneg : n < 0
  · obtain ⟨u, hu⟩ : ∃ u : Nat, n = -(u : Int) := ⟨n.natAbs, by omega⟩
    have hw1 : IntKind.u64.wrap n = n + 18446744073709551616 := by
      rw [IntKind.wrap_u64]; omega
    have hw2 : IntKind.u64.wrap (-(n + 18446744073709551616)) = (u : Int) := by
      rw [IntKind.wrap_u64]; omega
    -- region 3
    refine RF.move _ (.int .i64 n) rfl rfl (by decide) rfl (by simp [ev, upd, f0]) ?_
    refine RF.run (.int .u64 (n + 18446744073709551616)) rfl rfl (by decide) (by simp [execOp, ev, upd, eqGuard, f0, go_sem, Ybad.underlying3, Ybad.underlying33, hw1]) ?_
    refine RF.assign _ (.int .u64 (n + 18446744073709551616)) rfl rfl (by decide) rfl (by simp [ev, upd, f0]) ?_
    refine RF.done (CF.seq (CF.region ?_))
    -- region 4
    refine RF.move _ (.int .i64 n) rfl rfl (by decide) rfl (by simp [ev, upd, f0]) ?_
    refine RF.run (.bool true) rfl rfl (by decide) (by simp [execOp, ev, upd, eqGuard, f0, go_sem, hneg]) ?_
    refine RF.assign _ (.bool true) rfl rfl (by decide) rfl (by simp [ev, upd, f0]) ?_
    refine RF.done (CF.seq (CF.seq (CF.region ?_)))
    -- region 5
    refine RF.move _ (.bool true) rfl rfl (by decide) rfl (by simp [ev, upd, f0]) ?_
    refine RF.done (CF.condT (by simp [ev, upd]) (CF.region ?_))
    -- region 6
    refine RF.move _ (.int .u64 (n + 18446744073709551616)) rfl rfl (by decide) rfl (by simp [ev, upd, f0]) ?_
    refine RF.run (.int .u64 (u : Int)) rfl rfl (by decide) (by simp [execOp, ev, upd, eqGuard, f0, go_sem, hw2]) ?_
    refine RF.assign _ (.int .u64 (u : Int)) rfl rfl (by decide) rfl (by simp [ev, upd, f0]) ?_
    refine RF.nil ?_
    exact loopI (u := u) (neg := true) (by omega) (by simp [hneg]) (by simpa using hu) r1' (by simp [upd]) (by simp [upd]) (by simp [upd]) (by simp [upd])
  · obtain ⟨u, hu⟩ : ∃ u : Nat, n = (u : Int) := ⟨n.toNat, by omega⟩
    have hw1 : IntKind.u64.wrap n = (u : Int) := by rw [hu]; exact IntWalk.u64_in _ (by omega)
    -- region 3
    refine RF.move _ (.int .i64 n) rfl rfl (by decide) rfl (by simp [ev, upd, f0]) ?_
    refine RF.run (.int .u64 (u : Int)) rfl rfl (by decide) (by simp [execOp, ev, upd, eqGuard, f0, go_sem, Ybad.underlying3, Ybad.underlying33, hw1]) ?_
    refine RF.assign _ (.int .u64 (u : Int)) rfl rfl (by decide) rfl (by simp [ev, upd, f0]) ?_
    refine RF.done (CF.seq (CF.region ?_))
    -- region 4
    refine RF.move _ (.int .i64 n) rfl rfl (by decide) rfl (by simp [ev, upd, f0]) ?_
    refine RF.run (.bool false) rfl rfl (by decide) (by simp [execOp, ev, upd, eqGuard, f0, go_sem, hneg]) ?_
    refine RF.assign _ (.bool false) rfl rfl (by decide) rfl (by simp [ev, upd, f0]) ?_
    refine RF.done (CF.seq (CF.seq (CF.region ?_)))
    -- region 5
    refine RF.move _ (.bool false) rfl rfl (by decide) rfl (by simp [ev, upd, f0]) ?_
    refine RF.done (CF.condF (by simp [ev, upd]) (CF.skip ?_))
    exact loopI (u := u) (neg := false) (by omega) (by simp [hneg]) (by simpa using hu) r1' (by simp [upd]) (by simp [upd]) (by simp [upd]) (by simp [upd])
end Go.Proofs.YbulkebhgDoor

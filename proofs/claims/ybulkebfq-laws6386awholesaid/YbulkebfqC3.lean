/-
  LawS6386CWhole: what its first loop lays, as plain data; small runs; the first two loops.
-/
import Derived.Test.YbulkebfqC2
import Derived.Laws.OwnMore
namespace Go.Proofs.Ybulkebfq
open Go.RowKit
open Go.ChangeMaps (setBlock)
set_option linter.unusedSimpArgs false
set_option linter.unusedVariables false

/-- The selector of key k. -/
def sel (zs : List Int) (k : Nat) : Nat := (zs.getD k 0 % 4).toNat
theorem sel_lt (zs : List Int) (k : Nat) : sel zs k < 4 := by unfold sel; omega
theorem sel_int (zs : List Int) (k : Nat) : ((sel zs k : Nat) : Int) = zs.getD k 0 % 4 := by unfold sel; omega

/-- The last round before k whose key selects j. -/
def lastOf (zs : List Int) : Nat → Nat → Option Nat
  | 0, _ => none
  | k + 1, j => if j = sel zs k then some k else lastOf zs k j

theorem lastOf_lt (zs : List Int) : ∀ (k j i : Nat), lastOf zs k j = some i → i < k
  | 0, _, _, h => by cases h
  | k + 1, j, i, h => by
    unfold lastOf at h
    split at h
    · cases h; omega
    · have := lastOf_lt zs k j i h; omega

theorem lastOf_some (zs : List Int) : ∀ (k i : Nat), i < k → ∃ r, lastOf zs k (sel zs i) = some r
  | 0, _, h => by omega
  | k + 1, i, h => by
    unfold lastOf
    split
    · exact ⟨k, rfl⟩
    · rename_i hne
      have : i ≠ k := fun e => hne (by rw [e])
      exact lastOf_some zs k i (by omega)

/-- .. as Go's int. -/
def lastV : Option Nat → Int
  | none => -1
  | some i => i

theorem lastV_nonneg (o : Option Nat) : decide (0 ≤ lastV o) = o.isSome := by
  cases o
  · rfl
  · simp [lastV]

def lastArr (zs : List Int) (k : Nat) : Array Value := #[.int .i64 (lastV (lastOf zs k 0)), .int .i64 (lastV (lastOf zs k 1)), .int .i64 (lastV (lastOf zs k 2)), .int .i64 (lastV (lastOf zs k 3))]
theorem lastArr_size (zs : List Int) (k : Nat) : (lastArr zs k).size = 4 := rfl
theorem lastArr_at (zs : List Int) (k j : Nat) (h : j < 4) : (lastArr zs k)[j]? = some (.int .i64 (lastV (lastOf zs k j))) := by
  rcases (show j = 0 ∨ j = 1 ∨ j = 2 ∨ j = 3 from by omega) with rfl | rfl | rfl | rfl <;> rfl
theorem lastArr_set (zs : List Int) (k : Nat) : (lastArr zs k).setIfInBounds (sel zs k) (.int .i64 (k : Int)) = lastArr zs (k + 1) := by
  have h := sel_lt zs k
  unfold lastArr
  rcases (show sel zs k = 0 ∨ sel zs k = 1 ∨ sel zs k = 2 ∨ sel zs k = 3 from by omega) with e | e | e | e <;> simp [lastOf, e, lastV]

/-- The map's contents: at digest j the block of the last message. -/
def locksOf (H : Nat) (zs : List Int) (k j : Nat) : Option Nat := (lastOf zs k j).map fun i => H + 3 + 3 * i
theorem locksOf_zero (H : Nat) (zs : List Int) : locksOf H zs 0 = fun _ => none := by funext j; rfl
theorem locksOf_succ (H : Nat) (zs : List Int) (k : Nat) : (fun i => if i = sel zs k then some (H + 3 + 3 * k) else locksOf H zs k i) = locksOf H zs (k + 1) := by
  funext j
  show _ = (if j = sel zs k then some k else lastOf zs k j).map fun i => H + 3 + 3 * i
  split <;> rfl

/-- The row of pointers after k rounds. -/
def ptrArr (H n k : Nat) : Array Value := ((List.range n).map fun i => if i < k then Value.pointer (some ⟨H + 3 + 3 * i, 0, none⟩) else Value.pointer none).toArray
theorem ptrArr_size (H n k : Nat) : (ptrArr H n k).size = n := by simp [ptrArr]
theorem ptrArr_zero (H n : Nat) : madeCells #[Value.pointer none] n = ptrArr H n 0 := by
  apply Array.toList_inj.1
  rw [toList_madeCells_one]
  unfold ptrArr
  apply List.ext_getElem?
  intro i
  by_cases h : i < n
  · simp [h, List.getElem?_range]
  · simp [h]
theorem ptrArr_at (H n k i : Nat) (h : i < n) (hk : i < k) : (ptrArr H n k)[i]? = some (.pointer (some ⟨H + 3 + 3 * i, 0, none⟩)) := by
  simp [ptrArr, h, hk, List.getElem?_range]
theorem ptrArr_set (H n k : Nat) : (ptrArr H n k).setIfInBounds k (.pointer (some ⟨H + 3 + 3 * k, 0, none⟩)) = ptrArr H n (k + 1) := by
  apply Array.ext_getElem?
  intro i
  by_cases h : i < n
  · by_cases e : i = k
    · subst e
      simp [ptrArr, h, List.getElem?_range]
    · rw [Array.getElem?_setIfInBounds_ne (Ne.symm e)]
      have : (i < k) = (i < k + 1) := by apply propext; omega
      simp [ptrArr, h, List.getElem?_range, this]
  · have h1 : ((ptrArr H n k).setIfInBounds k (.pointer (some ⟨H + 3 + 3 * k, 0, none⟩)))[i]? = none := by
      rw [Array.getElem?_eq_none_iff]; simp [ptrArr_size]; omega
    have h2 : (ptrArr H n (k + 1))[i]? = none := by rw [Array.getElem?_eq_none_iff]; simp [ptrArr_size]; omega
    rw [h1, h2]

/-- The message of round i. -/
def msg (i : Int) : Array Value := #[.int .u8 0, .int .u64 0, .int .u64 i, .int .i64 0, .slice none 0 0, .slice none 0 0, .pointer none, .pointer none, .slice none 0 0]

/-- What k rounds lay. -/
def rds (zs : List Int) : Nat → List Obj
  | 0 => []
  | k + 1 => rds zs k ++ [.cells (msg k) 44, .cells (dig (sel zs k)) 45, .cells (dig (sel zs k)) 45]
theorem rds_length (zs : List Int) : ∀ k, (rds zs k).length = 3 * k
  | 0 => rfl
  | k + 1 => by simp [rds, rds_length zs k]; omega
theorem rds_at (zs : List Int) : ∀ (k i : Nat), i < k → (rds zs k)[3 * i]? = some (.cells (msg i) 44)
  | 0, _, h => by omega
  | k + 1, i, h => by
    unfold rds
    by_cases e : i = k
    · subst e
      rw [List.getElem?_append_right (by rw [rds_length]; omega), rds_length]
      simp
    · rw [List.getElem?_append_left (by rw [rds_length]; omega)]
      exact rds_at zs k i (by omega)

/-- The call's own blocks after k rounds of the first loop. -/
def mem1 (mo : Obj) (H n : Nat) (zs : List Int) (k : Nat) : List Obj := mo :: .cells (ptrArr H n k) 37 :: .cells (lastArr zs k) 36 :: rds zs k
theorem mem1_length (mo : Obj) (H n : Nat) (zs : List Int) (k : Nat) : (mem1 mo H n zs k).length = 3 + 3 * k := by simp [mem1, rds_length]; omega
theorem mem1_msg (mo : Obj) (H n : Nat) (zs : List Int) (k i : Nat) (h : i < k) : (mem1 mo H n zs k)[3 + 3 * i]? = some (.cells (msg i) 44) := by
  have e : 3 + 3 * i = 3 * i + 1 + 1 + 1 := by omega
  unfold mem1
  rw [e, List.getElem?_cons_succ, List.getElem?_cons_succ, List.getElem?_cons_succ]
  exact rds_at zs k i h

/-! ### small runs -/
theorem build44_2 (w : World) (x : Int) : (Instr.build 44 #[(2, .int .u64 x)]).run Yba.prog w = .ok (.agg (msg x)) w := by kernel_rfl
theorem size3 : (Yba.prog.info? 3).map (·.size) = some 1 := by kernel_rfl
theorem size36 : (Yba.prog.info? 36).map (·.size) = some 4 := by kernel_rfl
theorem zero36 : (Yba.prog.info? 36).map (·.zero) = some (some (.agg #[.int .i64 0, .int .i64 0, .int .i64 0, .int .i64 0])) := by kernel_rfl
theorem build36 (w : World) : (Instr.build 36 #[(0, .int .i64 (-1)), (1, .int .i64 (-1)), (2, .int .i64 (-1)), (3, .int .i64 (-1))]).run Yba.prog w = .ok (.agg #[.int .i64 (-1), .int .i64 (-1), .int .i64 (-1), .int .i64 (-1)]) w := by kernel_rfl
theorem info37 : (Yba.prog.info? 37).map (fun i => (i.zero, i.size, i.bytes)) = some (some (.pointer none), 1, 8) := by kernel_rfl
theorem len22 (w : World) (a : Option Addr) (n c : Nat) (ty : TypeId) : (Builtin.len_ #[22] ty #[.slice a n c]).run Yba.prog w = .ok (.int .i64 n) w := by
  simp [go_sem, Yba.underlying22]
theorem index22 (w : World) (x : Addr) (n c k : Nat) (h : k < n) : (Instr.indexAt 22 (.slice (some x) n c) (.int .i64 (k : Int))).run Yba.prog w = .ok (.pointer (some (x.add k))) w := by
  have h1 : (0 : Int) ≤ k ∧ (k : Int) < n := by omega
  simp [go_sem, Yba.underlying22, h1]
theorem index35 (w : World) (b n c k : Nat) (h : k < n) : (Instr.indexAt 35 (.slice (some ⟨b, 0, none⟩) n c) (.int .i64 (k : Int))).run Yba.prog w = .ok (.pointer (some ⟨b, k, none⟩)) w := by
  have h1 : (0 : Int) ≤ k ∧ (k : Int) < n := by omega
  simp [go_sem, Yba.underlying35, h1]
theorem index36 (w : World) (b k : Nat) (q : IntKind) (h : k < 4) : (Instr.indexAt 36 (.pointer (some ⟨b, 0, none⟩)) (.int q (k : Int))).run Yba.prog w = .ok (.pointer (some ⟨b, k, none⟩)) w := by
  have h1 : (0 : Int) ≤ k ∧ (k : Int) < 4 := by omega
  simp [go_sem, Yba.underlying36, h1]
theorem conv38 (w : World) (k : Nat) (h : k ≤ 1048576) : (convert 3 38 (.int .i64 (k : Int))).run Yba.prog w = .ok (.int .u64 (k : Int)) w := by
  have e : IntKind.u64.wrap (k : Int) = k := IntWalk.u64_in _ (by omega)
  simp [go_sem, Yba.underlying3, Yba.underlying38, e]

end Go.Proofs.Ybulkebfq

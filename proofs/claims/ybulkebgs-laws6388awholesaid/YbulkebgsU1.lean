/-
  Rows of bytes; strings as lists of numbers; a store into a row that bears '[]byte(s)''s mark; upper-casing as a plain function.
-/
import Derived.Test.YbulkebgsRuns
import Derived.Laws.IdiomStrings
import Derived.Laws.BytesArg
import Derived.Laws.OwnMore
import Derived.WalkSpells
namespace Go.Proofs.Ybulkebgs
open Go.RowKit
set_option linter.unusedSimpArgs false
set_option linter.unusedVariables false

/-! ### plain -/
/-- One byte upper-cased. -/
def upI (c : Int) : Int := if 97 ≤ c ∧ c ≤ 122 then c - 32 else c
theorem upI_idem (c : Int) : upI (upI c) = upI c := by
  unfold upI
  by_cases h : 97 ≤ c ∧ c ≤ 122
  · rw [if_pos h, if_neg (by omega)]
  · rw [if_neg h, if_neg h]
theorem upI_byte {c : Int} (h : 0 ≤ c ∧ c ≤ 255) : 0 ≤ upI c ∧ upI c ≤ 255 := by unfold upI; split <;> omega

/-- A string's bytes as numbers. -/
def nums (s : ByteArray) : List Int := s.data.toList.map fun b => (b.toNat : Int)
theorem nums_length (s : ByteArray) : (nums s).length = s.size := by rw [nums, List.length_map, Array.length_toList]; rfl
theorem nums_byte (s : ByteArray) : ∀ n ∈ nums s, 0 ≤ n ∧ n ≤ 255 := by
  intro n hn
  obtain ⟨b, _, rfl⟩ := List.mem_map.1 hn
  have := b.toNat_lt
  omega
theorem str_nums (s : ByteArray) : strOfNums (nums s) = s := by
  cases s with
  | mk d =>
    simp [strOfNums, nums, List.map_map, Function.comp_def]
theorem nums_str {xs : List Int} (h : ∀ n ∈ xs, 0 ≤ n ∧ n ≤ 255) : nums (strOfNums xs) = xs := by
  unfold nums
  rw [strOfNums_data, List.map_map]
  have : ∀ n ∈ xs, ((fun b : UInt8 => (b.toNat : Int)) ∘ fun n : Int => UInt8.ofNat n.toNat) n = n := by
    intro n hn
    have h1 := h n hn
    simp only [Function.comp_def, UInt8.toNat_ofNat']
    omega
  rw [List.map_congr_left this, List.map_id']
theorem getD_byte {xs : List Int} (h : ∀ n ∈ xs, 0 ≤ n ∧ n ≤ 255) (i : Nat) : 0 ≤ xs.getD i 0 ∧ xs.getD i 0 ≤ 255 := by
  by_cases hi : i < xs.length
  · have : xs.getD i 0 ∈ xs := by simp [List.getD, List.getElem?_eq_getElem hi]
    exact h _ this
  · simp [List.getD, hi]

/-- A row of bytes. -/
def rowF (n : Nat) (g : Nat → Int) : Array Value := ((List.range n).map fun i => Value.int .u8 (g i)).toArray
theorem rowF_size (n : Nat) (g : Nat → Int) : (rowF n g).size = n := by simp [rowF]
theorem rowF_at (n : Nat) (g : Nat → Int) (i : Nat) (h : i < n) : (rowF n g)[i]? = some (.int .u8 (g i)) := by simp [rowF, h, List.getElem?_range]
theorem rowF_congr {n : Nat} {g g' : Nat → Int} (h : ∀ i, i < n → g i = g' i) : rowF n g = rowF n g' := by
  unfold rowF
  rw [List.map_congr_left (fun i hi => by rw [h i (List.mem_range.1 hi)])]
theorem rowF_set (n : Nat) (g : Nat → Int) (k : Nat) (v : Int) : (rowF n g).setIfInBounds k (.int .u8 v) = rowF n (fun i => if i = k then v else g i) := by
  apply Array.ext_getElem?
  intro i
  by_cases h : i < n
  · by_cases e : i = k
    · subst e
      rw [rowF_at n _ i h]
      simp [rowF_size, h]
    · rw [Array.getElem?_setIfInBounds_ne (Ne.symm e), rowF_at n _ i h, rowF_at n _ i h]
      simp [e]
  · have h1 : ((rowF n g).setIfInBounds k (.int .u8 v))[i]? = none := by rw [Array.getElem?_eq_none_iff]; simp [rowF_size]; omega
    have h2 : (rowF n (fun i => if i = k then v else g i))[i]? = none := by rw [Array.getElem?_eq_none_iff]; simp [rowF_size]; omega
    rw [h1, h2]
theorem rowF_made (n : Nat) : madeCells #[Value.int .u8 0] n = rowF n (fun _ => 0) := by
  apply Array.toList_inj.1
  rw [toList_madeCells_one]
  unfold rowF
  apply List.ext_getElem?
  intro i
  by_cases h : i < n
  · simp [h, List.getElem?_range]
  · simp [h]
theorem rowF_bytes (s : ByteArray) (cap : Nat) (h : s.size ≤ cap) : bytesRow s cap = rowF cap (fun i => (nums s).getD i 0) := by
  apply Array.ext_getElem?
  intro i
  have hs : s.data.size = s.size := rfl
  by_cases h1 : i < cap
  · rw [rowF_at _ _ _ h1]
    unfold bytesRow
    by_cases h2 : i < s.size
    · rw [Array.getElem?_append_left (by simpa using h2)]
      simp [nums, h2, hs]
    · rw [Array.getElem?_append_right (by simp [hs]; omega)]
      have h3 : i - s.size < cap - s.size := by omega
      simp [nums, hs, h3, h2]
  · have e1 : (bytesRow s cap)[i]? = none := by rw [Array.getElem?_eq_none_iff]; simp [bytesRow, hs]; omega
    have e2 : (rowF cap (fun i => (nums s).getD i 0))[i]? = none := by rw [Array.getElem?_eq_none_iff]; simp [rowF_size]; omega
    rw [e1, e2]

/-! ### runs -/
theorem size5 : (Yba.prog.info? 5).map (·.size) = some 1 := by kernel_rfl
theorem info5 : (Yba.prog.info? 5).map (fun i => (i.zero, i.size, i.bytes)) = some (some (.int .u8 0), 1, 1) := by kernel_rfl
theorem len25 (w : World) (a : Option Addr) (n c : Nat) (ty : TypeId) : (Builtin.len_ #[25] ty #[.slice a n c]).run Yba.prog w = .ok (.int .i64 n) w := by
  simp [go_sem, Yba.underlying25]
theorem len9 (w : World) (s : ByteArray) (ty : TypeId) : (Builtin.len_ #[9] ty #[.string s]).run Yba.prog w = .ok (.int .i64 s.size) w := by
  simp [go_sem, Yba.underlying9]
theorem index25 (w : World) (b n c k : Nat) (h : k < n) : (Instr.indexAt 25 (.slice (some ⟨b, 0, none⟩) n c) (.int .i64 (k : Int))).run Yba.prog w = .ok (.pointer (some ⟨b, k, none⟩)) w := by
  have h1 : (0 : Int) ≤ k ∧ (k : Int) < n := by omega
  simp [go_sem, Yba.underlying25, h1]
theorem index25x (w : World) (x : Addr) (n c k : Nat) (h : k < n) : (Instr.indexAt 25 (.slice (some x) n c) (.int .i64 (k : Int))).run Yba.prog w = .ok (.pointer (some (x.add k))) w := by
  have h1 : (0 : Int) ≤ k ∧ (k : Int) < n := by omega
  simp [go_sem, Yba.underlying25, h1]
theorem index9 (w : World) (xs : List Int) (k : Nat) (q : IntKind) (hb : ∀ n ∈ xs, 0 ≤ n ∧ n ≤ 255) (h : k < xs.length) : (Instr.index 9 (.string (strOfNums xs)) (.int q (k : Int))).run Yba.prog w = .ok (.int .u8 (xs.getD k 0)) w := by
  have h1 : (0 : Int) ≤ k ∧ (k : Int) < (strOfNums xs).size := by rw [strOfNums_size]; omega
  have h2 : k < (strOfNums xs).size := by rw [strOfNums_size]; exact h
  have hget : (strOfNums xs)[k]'h2 = UInt8.ofNat (xs[k]).toNat := by
    show (strOfNums xs).data[k]'h2 = _
    simp [strOfNums]
  have hbk := hb xs[k] (List.getElem_mem h)
  have hval : (((strOfNums xs)[k]'h2).toNat : Int) = xs.getD k 0 := by
    rw [hget, UInt8.toNat_ofNat', List.getD_eq_getElem?_getD, List.getElem?_eq_getElem h]
    show (((xs[k]).toNat % 2 ^ 8 : Nat) : Int) = xs[k]
    omega
  rw [run_index_string w 9 _ q _ Yba.underlying9, dif_pos h1]
  simp only [Int.toNat_natCast, hval]
theorem conv25 (w : World) (b cap n : Nat) (g : Nat → Int) (t : TypeId) (fr : Nat × Nat) (hb : w.heap[b]? = some (.cells (rowF cap g) t fr)) (hn : n ≤ cap) :
    (convert 25 9 (.slice (some ⟨b, 0, none⟩) n cap)).run Yba.prog w = .ok (.string (strOfNums ((List.range n).map g))) w := by
  refine run_convert_bytes_arg w 25 5 Yba.underlying25 Yba.underlying5 b 0 n cap ((List.range n).map g) (by simp) (fun i hi => ?_) 9 Yba.underlying9
  rw [Nat.zero_add, cell_at hb (rowF_at cap g i (by omega))]
  simp [List.getD, hi, List.getElem?_range]

/-- A store of one cell into a block whose frozen range does not hold it. -/
theorem RF.storeF {P : Program} {n : Nat} {Q : Exit → (Nat → Value) → World → Prop} {f : Nat → Value} {w0 w : World} {os : List Obj} {ops : Array Oper} {o : Oper} {rest : List Oper} (t t' : TypeId) (x y : Operand) (i off : Nat) (cs : Array Value) (fr : Nat × Nat) (v : Value) (hr : Rep w0 w os) (hi : os[i]? = some (.cells cs t' fr)) (hfr : (decide (fr.1 ≤ off) && decide (off < fr.2)) = false) (hoff : off < cs.size) (hg : o.guard = none) (hd : o.dst = none)
    (ho : o.op = .store t x y) (hx : ev f x = .pointer (some ⟨w0.heap.size + i, off, none⟩)) (hy : ev f y = v) (hv : v.oneCell' = true) (h1 : v.cells = #[v]) (hs : (P.info? t).map (·.size) = some 1)
    (h : ∀ w', Rep w0 w' (os.set i (.cells (cs.setIfInBounds off v) t' fr)) → RF P n ops rest Q f w') : RF P n ops (o :: rest) Q f w := by
  refine RF.unit (w.setCell ⟨w0.heap.size + i, off, none⟩ v) hg hd ?_ (h _ (hr.setCell hi off v))
  have hb := hr.block hi
  have hc : w.cell? ⟨w0.heap.size + i, off, none⟩ = some cs[off] := cell_at hb (by simp [hoff])
  have hf : w.frozen? ⟨w0.heap.size + i, off, none⟩ = false := by
    obtain ⟨lo, hi'⟩ := fr
    simpa [World.frozen?, hb] using hfr
  cases hq : P.info? t with
  | none => simp [hq] at hs
  | some j =>
    have hs' : j.size = 1 := by simpa [hq] using hs
    have hadd : (⟨w0.heap.size + i, off, none⟩ : Addr).add 0 = ⟨w0.heap.size + i, off, none⟩ := by unfold Addr.add; split <;> simp_all
    have hst := run_store P w ⟨w0.heap.size + i, off, none⟩ v .plain hv
    simp [execOp, ho, hx, hy, Instr.storeAt, Instr.sureAddr, storeVar, sizeOf, typeInfo, hq, hs', h1, Sem.run_bind, Result.andThen, storeCells, hadd, hst, hc, hf]

end Go.Proofs.Ybulkebgs

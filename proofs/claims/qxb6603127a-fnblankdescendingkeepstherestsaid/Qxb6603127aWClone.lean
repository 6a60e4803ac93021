import Derived.Test.Qxb6603127aMem
import Derived.Deep.OwnRows
import Derived.Laws.CopyOwn
import Derived.WalkSpells
namespace Go.Proofs.Qxb6603127a
open Go.ChangeShapes Go.WideShapes Go.ChangeAt Go.RowKit
set_option linter.unusedVariables false

/-- What is known of a slice that came in: its n elements, as values f. -/
def Came (w : World) (a : Option Addr) (n cap : Nat) (f : Nat → Value) : Prop :=
  (a = none ∧ n = 0 ∧ cap = 0) ∨ ∃ x, a = some x ∧ ∀ j, j < n → w.cell? (x.add j) = some (f j)
/-- What is known of its copy, in the world w. -/
def Copied (w : World) (a : Option Addr) (n : Nat) (f : Nat → Value) : Prop :=
  n = 0 ∨ ∃ g, a = some ⟨g, 0, none⟩ ∧ g < w.heap.size ∧ ∀ j, j < n → w.cell? ⟨g, j, none⟩ = some (f j)
theorem Copied.later {w w' : World} {a : Option Addr} {n : Nat} {f : Nat → Value} (h : Copied w a n f) (hb : Below w.heap.size w w') : Copied w' a n f := by
  rcases h with h | ⟨g, ha, hl, hc⟩
  · exact .inl h
  · exact .inr ⟨g, ha, Nat.lt_of_lt_of_le hl hb.size, fun j hj => (hb.cell (by exact hl)).trans (hc j hj)⟩

def row (f : Nat → Value) (n : Nat) : List Value := (List.range n).map f
theorem row_len (f : Nat → Value) (n : Nat) : (row f n).length = n := by simp [row]
theorem row_get {f : Nat → Value} {n j : Nat} {u : Value} (h : (row f n)[j]? = some u) : j < n ∧ u = f j := by
  have hj : j < n := by
    rcases Nat.lt_or_ge j n with h' | h'
    · exact h'
    · rw [List.getElem?_eq_none (by rw [row_len]; exact h')] at h; cases h
  refine ⟨hj, ?_⟩
  simp [row, hj] at h
  exact h.symm
theorem splice_row (cur : List Value) (f : Nat → Value) (n : Nat) (h : cur.length = n) : splice cur 0 (row f n) = row f n := by
  unfold splice
  rw [row_len, List.take_zero, List.nil_append, List.drop_of_length_le (by omega), List.append_nil]

theorem cloneU_nil (w : World) : Calls Try.prog 5 #[.slice none 0 0] w fun e w' => e = .returned (.slice none 0 0) ∧ w' = w := by
  have heq := fun wx => Lib.run_eql_slice_nil (P := Try.prog) wx 22 32 none 0 0 0 0 Try.underlying22
  go_enter Try.func5, Try.ntmps5
  go_wp2
  go_ret
  exact ⟨rfl, rfl⟩
theorem cloneB_nil (w : World) : Calls Try.prog 6 #[.slice none 0 0] w fun e w' => e = .returned (.slice none 0 0) ∧ w' = w := by
  have heq := fun wx => Lib.run_eql_slice_nil (P := Try.prog) wx 23 4 none 0 0 0 0 Try.underlying23
  go_enter Try.func6, Try.ntmps6
  go_wp2
  go_ret
  exact ⟨rfl, rfl⟩

set_option maxRecDepth 20000 in
theorem cloneU_row (x : Addr) (n cap : Nat) (f : Nat → Value) (hf : ∀ j, (f j).oneCell' = true) (w : World) (hn : n ≤ 1048576) (hc : ∀ j, j < n → w.cell? (x.add j) = some (f j)) :
    Calls Try.prog 5 #[.slice (some x) n cap] w fun e w' => e = .returned (.slice (some ⟨w.heap.size, 0, none⟩) n n) ∧ Copied w' (some ⟨w.heap.size, 0, none⟩) n f ∧ Below w.heap.size w w' := by
  have heq := fun wx => Lib.run_eql_slice_nil (P := Try.prog) wx 22 32 (some x) n cap 0 0 Try.underlying22
  have hmk := run_make_row' (P := Try.prog) 22 32 (.int .u16 0) 2 Try.underlying22 Try.info32 rfl .i64 .i64 n (by omega) (by omega)
  have hsz : (Try.prog.info? 32).map (·.size) = some 1 := by kernel_rfl
  have HC : Hid (∀ j v, (row f n)[j]? = some v → (w.alloc (.cells (madeCells #[.int .u16 0] n) 32)).cell? (x.add j) = some v) := fun j v hj => by
    obtain ⟨hlt, rfl⟩ := row_get hj
    rw [((Below.refl _ w).alloc (Nat.le_refl _) _).cell (Go.Clock.block_lt (hc j hlt))]
    exact hc j hlt
  have HB : Hid (Below w.heap.size w (w.alloc (.cells (madeCells #[.int .u16 0] n) 32))) := (Below.refl _ w).alloc (Nat.le_refl _) _
  have HG : Hid ((w.alloc (.cells (madeCells #[.int .u16 0] n) 32)).heap[w.heap.size]? = some (.cells (madeCells #[.int .u16 0] n).toList.toArray 32 (0, 0))) := by
    have : (w.alloc (.cells (madeCells #[.int .u16 0] n) 32)).heap[w.heap.size]? = some (.cells (madeCells #[.int .u16 0] n).toList.toArray 32 (0, 0)) := by
      rw [Array.toArray_toList]; exact heap_alloc_new w _
    exact this
  have HL : Hid ((madeCells #[.int .u16 0] n).toList.length = n) := by
    have : (madeCells #[.int .u16 0] n).toList.length = n := by rw [Array.length_toList, size_madeCells]
    exact this
  have HF : Hid (∀ j, (f j).oneCell' = true) := hf
  clear hc hf
  go_enter Try.func5, Try.ntmps5
  go_wp2_with (refine wpList_copy_splice rfl _ _ 22 22 rfl 32 Try.underlying22 hsz _ _ n n n cap rfl rfl w.heap.size 0 (madeCells #[.int .u16 0] n).toList 32 (by exact HG.out) (row f n) (by rw [row_len]; exact (Nat.min_self n).symm) (fun _ => ⟨rfl, x, rfl, by exact HC.out⟩) (by rw [row_len, HL.out]; omega) (fun v hv => by unfold row at hv; simp only [List.mem_map] at hv; obtain ⟨j, _, rfl⟩ := hv; exact HF.out j) w.heap.size w (by exact HB.out) (Nat.le_refl _) ?_)
  intro w1 hg1 hb1
  have HB1 : Hid _ := hb1
  have HR : Hid (Copied w1 (some ⟨w.heap.size, 0, none⟩) n f) := .inr ⟨w.heap.size, rfl, (Array.getElem?_eq_some_iff.mp hg1.out).1, fun j hj => by
    rw [cell_of_row _ _ j _ 32 (0, 0) hg1.out, splice_row _ _ _ HL.out]
    simp [row, hj]⟩
  clear hg1 hb1
  go_wp2_with fail
  go_ret
  exact ⟨rfl, HR.out, HB1.out⟩

set_option maxRecDepth 20000 in
theorem cloneB_row (x : Addr) (n cap : Nat) (f : Nat → Value) (hf : ∀ j, (f j).oneCell' = true) (w : World) (hn : n ≤ 1048576) (hc : ∀ j, j < n → w.cell? (x.add j) = some (f j)) :
    Calls Try.prog 6 #[.slice (some x) n cap] w fun e w' => e = .returned (.slice (some ⟨w.heap.size, 0, none⟩) n n) ∧ Copied w' (some ⟨w.heap.size, 0, none⟩) n f ∧ Below w.heap.size w w' := by
  have heq := fun wx => Lib.run_eql_slice_nil (P := Try.prog) wx 23 4 (some x) n cap 0 0 Try.underlying23
  have hmk := run_make_row' (P := Try.prog) 23 4 (.bool false) 1 Try.underlying23 Try.info4 rfl .i64 .i64 n (by omega) (by omega)
  have hsz : (Try.prog.info? 4).map (·.size) = some 1 := by kernel_rfl
  have HC : Hid (∀ j v, (row f n)[j]? = some v → (w.alloc (.cells (madeCells #[.bool false] n) 4)).cell? (x.add j) = some v) := fun j v hj => by
    obtain ⟨hlt, rfl⟩ := row_get hj
    rw [((Below.refl _ w).alloc (Nat.le_refl _) _).cell (Go.Clock.block_lt (hc j hlt))]
    exact hc j hlt
  have HB : Hid (Below w.heap.size w (w.alloc (.cells (madeCells #[.bool false] n) 4))) := (Below.refl _ w).alloc (Nat.le_refl _) _
  have HG : Hid ((w.alloc (.cells (madeCells #[.bool false] n) 4)).heap[w.heap.size]? = some (.cells (madeCells #[.bool false] n).toList.toArray 4 (0, 0))) := by
    have : (w.alloc (.cells (madeCells #[.bool false] n) 4)).heap[w.heap.size]? = some (.cells (madeCells #[.bool false] n).toList.toArray 4 (0, 0)) := by
      rw [Array.toArray_toList]; exact heap_alloc_new w _
    exact this
  have HL : Hid ((madeCells #[.bool false] n).toList.length = n) := by
    have : (madeCells #[.bool false] n).toList.length = n := by rw [Array.length_toList, size_madeCells]
    exact this
  have HF : Hid (∀ j, (f j).oneCell' = true) := hf
  clear hc hf
  go_enter Try.func6, Try.ntmps6
  go_wp2_with (refine wpList_copy_splice rfl _ _ 23 23 rfl 4 Try.underlying23 hsz _ _ n n n cap rfl rfl w.heap.size 0 (madeCells #[.bool false] n).toList 4 (by exact HG.out) (row f n) (by rw [row_len]; exact (Nat.min_self n).symm) (fun _ => ⟨rfl, x, rfl, by exact HC.out⟩) (by rw [row_len, HL.out]; omega) (fun v hv => by unfold row at hv; simp only [List.mem_map] at hv; obtain ⟨j, _, rfl⟩ := hv; exact HF.out j) w.heap.size w (by exact HB.out) (Nat.le_refl _) ?_)
  intro w1 hg1 hb1
  have HB1 : Hid _ := hb1
  have HR : Hid (Copied w1 (some ⟨w.heap.size, 0, none⟩) n f) := .inr ⟨w.heap.size, rfl, (Array.getElem?_eq_some_iff.mp hg1.out).1, fun j hj => by
    rw [cell_of_row _ _ j _ 4 (0, 0) hg1.out, splice_row _ _ _ HL.out]
    simp [row, hj]⟩
  clear hg1 hb1
  go_wp2_with fail
  go_ret
  exact ⟨rfl, HR.out, HB1.out⟩


theorem cloneU_any (a : Option Addr) (n cap : Nat) (f : Nat → Value) (hf : ∀ j, (f j).oneCell' = true) (w : World) (hn : n ≤ 1048576) (hc : Came w a n cap f) :
    Calls Try.prog 5 #[.slice a n cap] w fun e w' => ∃ a' c', e = .returned (.slice a' n c') ∧ Copied w' a' n f ∧ Below w.heap.size w w' := by
  rcases hc with ⟨rfl, rfl, rfl⟩ | ⟨x, rfl, hc⟩
  · exact (cloneU_nil w).mono fun e w' ⟨he, hw⟩ => ⟨none, 0, he, .inl rfl, by rw [hw]; exact Below.refl _ _⟩
  · exact (cloneU_row x n cap f hf w hn hc).mono fun e w' ⟨he, h1, h2⟩ => ⟨_, n, he, h1, h2⟩
theorem cloneB_any (a : Option Addr) (n cap : Nat) (f : Nat → Value) (hf : ∀ j, (f j).oneCell' = true) (w : World) (hn : n ≤ 1048576) (hc : Came w a n cap f) :
    Calls Try.prog 6 #[.slice a n cap] w fun e w' => ∃ a' c', e = .returned (.slice a' n c') ∧ Copied w' a' n f ∧ Below w.heap.size w w' := by
  rcases hc with ⟨rfl, rfl, rfl⟩ | ⟨x, rfl, hc⟩
  · exact (cloneB_nil w).mono fun e w' ⟨he, hw⟩ => ⟨none, 0, he, .inl rfl, by rw [hw]; exact Below.refl _ _⟩
  · exact (cloneB_row x n cap f hf w hn hc).mono fun e w' ⟨he, h1, h2⟩ => ⟨_, n, he, h1, h2⟩
theorem bytes_yes (a b : Option Addr) (n m c d : Nat) (s : Bool) (w : World) (h : n + m ≤ 1048576) :
    Calls Try.prog 4 #[.slice a n c, .slice b m d, .bool s] w fun e w' => e = .returned (.bool true) ∧ w' = w := by
  go_enter Try.func4, Try.ntmps4
  go_wp2
  go_ret
  exact ⟨rfl, rfl⟩
theorem bytes_no (a b : Option Addr) (n m c d : Nat) (s : Bool) (w : World) (h1 : n ≤ 9223372036854775807) (h2 : m ≤ 9223372036854775807) (h : 1048576 < n + m) :
    Calls Try.prog 4 #[.slice a n c, .slice b m d, .bool s] w fun e w' => e = .returned (.bool false) ∧ w' = w := by
  by_cases h3 : 1048576 < n
  · go_enter Try.func4, Try.ntmps4
    go_wp2
    go_ret
    exact ⟨rfl, rfl⟩
  · by_cases h4 : 1048576 < m
    · go_enter Try.func4, Try.ntmps4
      go_wp2
      go_ret
      exact ⟨rfl, rfl⟩
    · go_enter Try.func4, Try.ntmps4
      go_wp2
      go_ret
      exact ⟨rfl, rfl⟩
end Go.Proofs.Qxb6603127a

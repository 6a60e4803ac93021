import Derived.Test.Qxb6603127aDoorWHex
import Derived.Deep.OwnRows
import Derived.Laws.CopyOwn
import Derived.WalkSpells
import Derived.Clock
namespace Go.Proofs.Qxb6603127aDoor
open Go.ChangeShapes Go.WideShapes Go.ChangeAt Go.RowKit
set_option linter.unusedVariables false

/-- What is known of a slice that came in: its n elements, as values f. -/
def Came (w : World) (a : Option Addr) (n cap : Nat) (f : Nat → Value) : Prop :=
  (a = none ∧ n = 0 ∧ cap = 0) ∨ ∃ x, a = some x ∧ ∀ j, j < n → w.cell? (x.add j) = some (f j)
/-- What is known of its copy, in the world w. -/
def Copied (w : World) (a : Option Addr) (n : Nat) (f : Nat → Value) : Prop :=
  n = 0 ∨ ∃ g, a = some ⟨g, 0, none⟩ ∧ g < w.heap.size ∧ ∀ j, j < n → w.cell? ⟨g, j, none⟩ = some (f j)
theorem Copied.later {w w' : World} {a : Option Addr} {n : Nat} {f : Nat → Value} (h : Copied w a n f) (hb : Below w.heap.size w w') : Copied w' a n f := by
  rcases h with h | ⟨g, ha, hl, hc⟩
  · exact .inl h
  · exact .inr ⟨g, ha, Nat.lt_of_lt_of_le hl hb.size, fun j hj => (hb.cell (by exact hl)).trans (hc j hj)⟩

def row (f : Nat → Value) (n : Nat) : List Value := (List.range n).map f
theorem row_len (f : Nat → Value) (n : Nat) : (row f n).length = n := by simp [row]
theorem row_get {f : Nat → Value} {n j : Nat} {u : Value} (h : (row f n)[j]? = some u) : j < n ∧ u = f j := by
  have hj : j < n := by
    rcases Nat.lt_or_ge j n with h' | h'
    · exact h'
    · rw [List.getElem?_eq_none (by rw [row_len]; exact h')] at h; cases h
  refine ⟨hj, ?_⟩
  simp [row, hj] at h
  exact h.symm
theorem splice_row (cur : List Value) (f : Nat → Value) (n : Nat) (h : cur.length = n) : splice cur 0 (row f n) = row f n := by
  unfold splice
  rw [row_len, List.take_zero, List.nil_append, List.drop_of_length_le (by omega), List.append_nil]
theorem Tryd.info5 : (Tryd.prog.info? 5).map (fun i => (i.zero, i.size, i.bytes)) = some (some (.int .u8 0), 1, 1) := by kernel_rfl

theorem cl_nil (w : World) : Calls Tryd.prog 7 #[.slice none 0 0] w fun e w' => e = .returned (.slice none 0 0) ∧ w' = w := by
  have heq := fun wx => Lib.run_eql_slice_nil (P := Tryd.prog) wx 22 5 none 0 0 0 0 Tryd.underlying22
  go_enter Tryd.func7, Tryd.ntmps7
  go_wp2
  go_ret
  exact ⟨rfl, rfl⟩

set_option maxRecDepth 20000 in
theorem cl_row (x : Addr) (n cap : Nat) (f : Nat → Value) (hf : ∀ j, (f j).oneCell' = true) (w : World) (hn : n ≤ 1048576) (hc : ∀ j, j < n → w.cell? (x.add j) = some (f j)) :
    Calls Tryd.prog 7 #[.slice (some x) n cap] w fun e w' => e = .returned (.slice (some ⟨w.heap.size, 0, none⟩) n n) ∧ Copied w' (some ⟨w.heap.size, 0, none⟩) n f ∧ Below w.heap.size w w' := by
  have heq := fun wx => Lib.run_eql_slice_nil (P := Tryd.prog) wx 22 5 (some x) n cap 0 0 Tryd.underlying22
  have hmk := run_make_row' (P := Tryd.prog) 22 5 (.int .u8 0) 1 Tryd.underlying22 Tryd.info5 rfl .i64 .i64 n (by omega) (by omega)
  have hsz : (Tryd.prog.info? 5).map (·.size) = some 1 := by kernel_rfl
  have HC : Hid (∀ j v, (row f n)[j]? = some v → (w.alloc (.cells (madeCells #[.int .u8 0] n) 5)).cell? (x.add j) = some v) := fun j v hj => by
    obtain ⟨hlt, rfl⟩ := row_get hj
    rw [((Below.refl _ w).alloc (Nat.le_refl _) _).cell (Go.Clock.block_lt (hc j hlt))]
    exact hc j hlt
  have HB : Hid (Below w.heap.size w (w.alloc (.cells (madeCells #[.int .u8 0] n) 5))) := (Below.refl _ w).alloc (Nat.le_refl _) _
  have HG : Hid ((w.alloc (.cells (madeCells #[.int .u8 0] n) 5)).heap[w.heap.size]? = some (.cells (madeCells #[.int .u8 0] n).toList.toArray 5 (0, 0))) := by
    have : (w.alloc (.cells (madeCells #[.int .u8 0] n) 5)).heap[w.heap.size]? = some (.cells (madeCells #[.int .u8 0] n).toList.toArray 5 (0, 0)) := by
      rw [Array.toArray_toList]; exact heap_alloc_new w _
    exact this
  have HL : Hid ((madeCells #[.int .u8 0] n).toList.length = n) := by
    have : (madeCells #[.int .u8 0] n).toList.length = n := by rw [Array.length_toList, size_madeCells]
    exact this
  have HF : Hid (∀ j, (f j).oneCell' = true) := hf
  clear hc hf
  go_enter Tryd.func7, Tryd.ntmps7
  go_wp2_with (refine wpList_copy_splice rfl _ _ 22 22 rfl 5 Tryd.underlying22 hsz _ _ n n n cap rfl rfl w.heap.size 0 (madeCells #[.int .u8 0] n).toList 5 (by exact HG.out) (row f n) (by rw [row_len]; exact (Nat.min_self n).symm) (fun _ => ⟨rfl, x, rfl, by exact HC.out⟩) (by rw [row_len, HL.out]; omega) (fun v hv => by unfold row at hv; simp only [List.mem_map] at hv; obtain ⟨j, _, rfl⟩ := hv; exact HF.out j) w.heap.size w (by exact HB.out) (Nat.le_refl _) ?_)
  intro w1 hg1 hb1
  have HB1 : Hid _ := hb1
  have HR : Hid (Copied w1 (some ⟨w.heap.size, 0, none⟩) n f) := .inr ⟨w.heap.size, rfl, (Array.getElem?_eq_some_iff.mp hg1.out).1, fun j hj => by
    rw [cell_of_row _ _ j _ 5 (0, 0) hg1.out, splice_row _ _ _ HL.out]
    simp [row, hj]⟩
  clear hg1 hb1
  go_wp2_with fail
  go_ret
  exact ⟨rfl, HR.out, HB1.out⟩

theorem cl_any (a : Option Addr) (n cap : Nat) (f : Nat → Value) (hf : ∀ j, (f j).oneCell' = true) (w : World) (hn : n ≤ 1048576) (hc : Came w a n cap f) :
    Calls Tryd.prog 7 #[.slice a n cap] w fun e w' => ∃ a' c', e = .returned (.slice a' n c') ∧ n ≤ c' ∧ Copied w' a' n f ∧ Below w.heap.size w w' := by
  rcases hc with ⟨rfl, rfl, rfl⟩ | ⟨x, rfl, hc⟩
  · exact (cl_nil w).mono fun e w' ⟨he, hw⟩ => ⟨none, 0, he, Nat.le_refl _, .inl rfl, by rw [hw]; exact Below.refl _ _⟩
  · exact (cl_row x n cap f hf w hn hc).mono fun e w' ⟨he, h1, h2⟩ => ⟨_, n, he, Nat.le_refl _, h1, h2⟩
theorem bytes6_yes (a : Option Addr) (n c : Nat) (w : World) (h : n ≤ 1048576) :
    Calls Tryd.prog 6 #[.slice a n c] w fun e w' => e = .returned (.bool true) ∧ w' = w := by
  go_enter Tryd.func6, Tryd.ntmps6
  go_wp2
  go_ret
  exact ⟨rfl, rfl⟩
theorem bytes6_no (a : Option Addr) (n c : Nat) (w : World) (h : 1048576 < n) :
    Calls Tryd.prog 6 #[.slice a n c] w fun e w' => e = .returned (.bool false) ∧ w' = w := by
  go_enter Tryd.func6, Tryd.ntmps6
  go_wp2
  go_ret
  exact ⟨rfl, rfl⟩
theorem bytes10_yes (u : Int) (b : Bool) (a : Option Addr) (n c : Nat) (w : World) (h : n ≤ 1048576) :
    Calls Tryd.prog 10 #[.int .u16 u, .bool b, .slice a n c] w fun e w' => e = .returned (.bool true) ∧ w' = w := by
  go_enter Tryd.func10, Tryd.ntmps10
  go_wp2
  go_ret
  exact ⟨rfl, rfl⟩
theorem bytes10_no (u : Int) (b : Bool) (a : Option Addr) (n c : Nat) (w : World) (h : 1048576 < n) :
    Calls Tryd.prog 10 #[.int .u16 u, .bool b, .slice a n c] w fun e w' => e = .returned (.bool false) ∧ w' = w := by
  go_enter Tryd.func10, Tryd.ntmps10
  go_wp2
  go_ret
  exact ⟨rfl, rfl⟩

/-- zzHexDigit. -/
def hxd (d : Int) (up : Bool) : Int := if d < 10 then 48 + d else if up then 55 + d else 87 + d
theorem hxd_range (d : Int) (up : Bool) (h0 : 0 ≤ d) (h1 : d ≤ 15) : 0 ≤ hxd d up ∧ hxd d up ≤ 255 := by unfold hxd; split <;> (try split) <;> omega
theorem hv_hxd (d : Int) (up : Bool) (h0 : 0 ≤ d) (h1 : d ≤ 15) : hv (hxd d up) = d := by
  by_cases h : d < 10
  · have e : hxd d up = 48 + d := by unfold hxd; rw [if_pos h]
    rw [e]; unfold hv; rw [if_pos (by omega)]; omega
  · cases up
    · have e : hxd d false = 87 + d := by unfold hxd; rw [if_neg h]; rfl
      rw [e]; unfold hv; rw [if_neg (by omega), if_pos (by omega)]; omega
    · have e : hxd d true = 55 + d := by unfold hxd; rw [if_neg h]; rfl
      rw [e]; unfold hv; rw [if_neg (by omega), if_neg (by omega), if_pos (by omega)]; omega
theorem hxd_any (d : Int) (up : Bool) (h0 : 0 ≤ d) (h1 : d ≤ 15) (w : World) :
    Calls Tryd.prog 11 #[.int .u16 d, .bool up] w fun e w' => e = .returned (.int .u8 (hxd d up)) ∧ w' = w := by
  by_cases h : d < 10
  · go_enter Tryd.func11, Tryd.ntmps11
    go_wp2
    all_goals
      go_ret
      refine ⟨ret_int ?_, rfl⟩
      unfold hxd
      rw [if_pos h]
  · have h' : 10 ≤ d := by omega
    cases up
    · go_enter Tryd.func11, Tryd.ntmps11
      go_wp2
      all_goals
        go_ret
        refine ⟨ret_int ?_, rfl⟩
        unfold hxd
        rw [if_neg (by omega), if_neg (by decide)]
        omega
    · go_enter Tryd.func11, Tryd.ntmps11
      go_wp2
      all_goals
        go_ret
        refine ⟨ret_int ?_, rfl⟩
        unfold hxd
        rw [if_neg (by omega), if_pos rfl]
        omega
end Go.Proofs.Qxb6603127aDoor

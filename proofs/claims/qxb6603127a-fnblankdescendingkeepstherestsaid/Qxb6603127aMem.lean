import Derived.Test.Qxb6603127aProg
import Derived.Test.Qxb6603127aPlain
import Derived.WalkKit
import Derived.ProofKit
import Derived.Deep.AppendLies
import Derived.WalkSmall
import Derived.Clock
namespace Go.Proofs.Qxb6603127a
open Go.ChangeShapes Go.WideShapes Go.ChangeAt Go.RowKit
set_option linter.unusedVariables false

theorem ret_bool {a b : Bool} (h : a = b) : Ending.returned (.bool a) = .returned (.bool b) := by rw [h]
theorem Try.info5 : (Try.prog.info? 5).map (fun i => (i.zero, i.size, i.bytes)) = some (some (.int .u8 0), 1, 1) := by kernel_rfl
theorem Try.info3 : (Try.prog.info? 3).map (fun i => (i.zero, i.size, i.bytes)) = some (some (.int .i64 0), 1, 8) := by kernel_rfl
theorem Try.info4 : (Try.prog.info? 4).map (fun i => (i.zero, i.size, i.bytes)) = some (some (.bool false), 1, 1) := by kernel_rfl
theorem Try.info32 : (Try.prog.info? 32).map (fun i => (i.zero, i.size, i.bytes)) = some (some (.int .u16 0), 1, 2) := by kernel_rfl

/-- w' is w but for block g and for new blocks. -/
structure Grew (g : Nat) (w w' : World) : Prop where
  os : w'.os = w.os
  tape : w'.tape = w.tape
  output : w'.output = w.output
  size : w.heap.size ≤ w'.heap.size
  block : ∀ k, k < w.heap.size → k ≠ g → w'.heap[k]? = w.heap[k]?
theorem Grew.refl (g : Nat) (w : World) : Grew g w w := ⟨rfl, rfl, rfl, Nat.le_refl _, fun _ _ _ => rfl⟩
theorem Grew.trans {g g' : Nat} {w w1 w2 : World} (h : Grew g w w1) (k : Grew g' w1 w2) (hg : g' = g ∨ w.heap.size ≤ g') : Grew g w w2 :=
  ⟨k.os.trans h.os, k.tape.trans h.tape, k.output.trans h.output, Nat.le_trans h.size k.size, fun i hi hne => (k.block i (Nat.lt_of_lt_of_le hi h.size) (by omega)).trans (h.block i hi hne)⟩
theorem Grew.of_grownBy {g : Nat} {w w' : World} (h : w.grownBy w' (some g)) : Grew g w w' := ⟨h.os, h.tape, h.output, h.size, fun k hk hne => h.block k hk (by simp; omega)⟩
theorem Grew.alloc (g : Nat) (w : World) (o : Obj) : Grew g w (w.alloc o) := ⟨rfl, rfl, rfl, by simp, fun k hk _ => Below.heap_alloc _ _ _ hk⟩
theorem Grew.setCell (g : Nat) (w : World) (j : Nat) (u : Value) : Grew g w (w.setCell ⟨g, j, none⟩ u) := ⟨rfl, rfl, rfl, by simp [World.setCell], fun k _ hne => Below.heap_setCell _ _ _ _ hne⟩
theorem Grew.drewN (g : Nat) (w : World) (n : Nat) : Grew g w (w.drewN n) := ⟨rfl, rfl, rfl, Nat.le_refl _, fun _ _ _ => rfl⟩
theorem Grew.cell {g : Nat} {w w' : World} (h : Grew g w w') {p : Addr} (hp : p.block < w.heap.size) (hne : p.block ≠ g) : w'.cell? p = w.cell? p := World.cell?_of_block (w := w) (h.block p.block hp hne)
theorem Grew.frozen {g : Nat} {w w' : World} (h : Grew g w w') {p : Addr} (hp : p.block < w.heap.size) (hne : p.block ≠ g) : w'.frozen? p = w.frozen? p := World.frozen?_of_block (w := w) (h.block p.block hp hne)
theorem Grew.below {g B : Nat} {w w' : World} (h : Grew g w w') (hB : B ≤ w.heap.size) (hg : B ≤ g) : Below B w w' := ⟨h.os, h.tape, h.output, h.size, fun k hk => h.block k (by omega) (by omega)⟩
theorem Grew.of_below {g : Nat} {w w' : World} (h : Below w.heap.size w w') : Grew g w w' := ⟨h.os, h.tape, h.output, h.size, fun k hk _ => h.block k hk⟩

/-- A slice of bytes of the call's own: block g (from B on), room for cap, the bytes L. -/
structure Stk (B : Nat) (w : World) (g cap : Nat) (L : List Int) : Prop where
  own : w.ownsRow B 5 1 (.slice (some ⟨g, 0, none⟩) L.length cap) L.length (L.map (Value.int .u8))
  live : g < w.heap.size
theorem Stk.new {B g cap : Nat} {w : World} {L : List Int} (h : Stk B w g cap L) : B ≤ g := (h.own.lt g rfl).1
theorem Stk.cell {B g cap : Nat} {w : World} {L : List Int} (h : Stk B w g cap L) (j : Nat) (hj : j < L.length) : w.cell? ⟨g, j, none⟩ = some (.int .u8 (L.getD j 0)) := by
  rw [h.own.cellAt j (by omega)]
  simp [List.getD_eq_getElem?_getD, hj]
theorem Stk.free {B g cap : Nat} {w : World} {L : List Int} (h : Stk B w g cap L) (j : Nat) : w.frozen? ⟨g, j, none⟩ = false := h.own.frozenAt j
theorem Stk.other {B g h cap : Nat} {w w' : World} {L : List Int} (hs : Stk B w h cap L) (hg : Grew g w w') (hne : h ≠ g) : Stk B w' h cap L := by
  refine ⟨⟨hs.own.1, ?_⟩, Nat.lt_of_lt_of_le hs.live hg.size⟩
  rcases hs.own.2 with h' | ⟨g', cap', cur, hv, hb, hh, r⟩
  · exact .inl h'
  · refine .inr ⟨g', cap', cur, hv, hb, ?_, r⟩
    have e : g' = h := by simp at hv; omega
    subst e
    rw [hg.block g' hs.live hne]; exact hh
theorem Stk.alloc {B h cap : Nat} {w : World} {L : List Int} (hs : Stk B w h cap L) (o : Obj) : Stk B (w.alloc o) h cap L := ⟨hs.own.alloc o, by have := hs.live; simp; omega⟩
/-- A byte stored. -/
theorem Stk.put {B g cap : Nat} {w : World} {L : List Int} (h : Stk B w g cap L) (j : Nat) (c : Int) : Stk B (w.setCell ⟨g, j, none⟩ (.int .u8 c)) g cap (L.set j c) := by
  have := (h.own.stored j (.int .u8 c)).1
  refine ⟨?_, by have := h.live; simpa [World.setCell] using this⟩
  rw [List.length_set, List.map_set]; exact this

/-- 'dst = append(dst, c, d, ..)' at the operation: one way, whether or not there was room. -/
theorem wpList_app {P : Program} (w : World) {ops : Array Oper} {rest : List Oper} {o : Oper} {a : Act} {Q : Exit → Act → World → Prop}
    (hg : o.guard = none) (s x : Operand) (t : TypeId) (hop : o.op = Op.call { callee := Callee.builtin Builtin.append, args := #[s, x], argTypes := #[t, t] })
    (i : TypeInfo) (z : Value) (h1 : P.underlying t = some (.slice 5)) (h2 : P.info? 5 = some i) (h3 : i.zero = some z) (h4 : i.size = 1) (h5 : i.bytes = 1) (h6 : z.cells.size = 1)
    (B g cap : Nat) (L cs : List Int) (hs : a.eval s = .slice (some ⟨g, 0, none⟩) L.length cap) (hst : Stk B w g cap L) (hB : B ≤ w.heap.size)
    (ad : Addr) (cc : Nat) (hx : a.eval x = .slice (some ad) cs.length cc) (hc : ∀ j u, (cs.map (Value.int .u8))[j]? = some u → w.cell? (ad.add j) = some u) (hpos : 0 < cs.length) (hL : L.length + cs.length ≤ 100000000)
    (hK : ∀ g' cap' w', Stk B w' g' cap' (L ++ cs) → Grew g w w' → (g' = g ∨ w.heap.size ≤ g') → wpList P ops Q rest (a.put o.dst (.slice (some ⟨g', 0, none⟩) (L.length + cs.length) cap')) w') :
    wpList P ops Q (o :: rest) a w := by
  refine wpList_append_lies w hg s x t hop B 5 i z 1 1 h1 h2 h3 h4 h5 h6 (by decide) _ L.length (L.map (Value.int .u8)) hs hst.own ad cs.length cc (cs.map (Value.int .u8)) hx (by simp) hc ?_ hpos (by unfold maxLen; omega) (by omega) hB _ rfl ?_
  · intro u hu
    simp only [List.mem_map] at hu
    obtain ⟨c, _, rfl⟩ := hu
    rfl
  · intro g' cap' w' hown hgr hat hlt
    refine hK g' cap' w' ⟨?_, hlt⟩ (Grew.of_grownBy hgr) ?_
    · rw [List.length_append, List.map_append]; exact hown
    · rcases hat with h | h
      · simp [Value.ownBlock] at h; exact .inl h.symm
      · exact .inr (by omega)

/-- The cells of a literal slice that has just been laid. -/
theorem news1 (w : World) (c : Int) : ∀ j u, ([c].map (Value.int .u8))[j]? = some u → (w.alloc (.cells #[.int .u8 c] 5)).cell? ((⟨w.heap.size, 0, none⟩ : Addr).add j) = some u := by
  intro j u hj
  match j with
  | 0 => simp at hj; subst hj; simp [Addr.add]
  | _ + 1 => simp at hj
theorem news2 (w : World) (c d : Int) : ∀ j u, ([c, d].map (Value.int .u8))[j]? = some u → (w.alloc (.cells #[.int .u8 c, .int .u8 d] 5)).cell? ((⟨w.heap.size, 0, none⟩ : Addr).add j) = some u := by
  intro j u hj
  match j with
  | 0 => simp at hj; subst hj; simp [Addr.add]
  | 1 => simp at hj; subst hj; simp [Addr.add]
  | _ + 2 => simp at hj
end Go.Proofs.Qxb6603127a

import Derived.Test.Qxb6603099aProg
import Derived.WalkKit
import Derived.ProofKit
import Derived.ArgAppend
import Derived.WalkSmall
import Derived.Deep.MidRow
import Derived.Clock
namespace Go.Proofs.Qxb6603099a
open Go.ChangeShapes Go.WideShapes Go.ChangeAt Go.RowKit
set_option linter.unusedVariables false

/-- The stack 'open': it lies in block g of the call's own (from B on), with room for cap bytes; its bytes are L, the outermost first. -/
structure Stk (B : Nat) (w : World) (g cap : Nat) (L : List Int) : Prop where
  new : B ≤ g
  le : L.length ≤ cap
  max : cap ≤ maxLen
  holds : ∀ j, j < L.length → w.cell? ⟨g, j, none⟩ = some (.int .u8 (L.getD j 0))
  there : ∀ j, j < cap → (w.cell? ⟨g, j, none⟩).isSome = true ∧ w.frozen? ⟨g, j, none⟩ = false
  live : g < w.heap.size

theorem Stk.same {B g cap : Nat} {w w' : World} {L : List Int} (h : Stk B w g cap L) (hb : Below w.heap.size w w') : Stk B w' g cap L :=
  ⟨h.new, h.le, h.max, fun j hj => (hb.cell (by exact h.live)).trans (h.holds j hj), fun j hj => by
    rw [hb.cell (p := ⟨g, j, none⟩) (by exact h.live), hb.frozen (p := ⟨g, j, none⟩) (by exact h.live)]; exact h.there j hj, Nat.lt_of_lt_of_le h.live hb.size⟩
theorem Stk.pop {B g cap : Nat} {w : World} {L : List Int} {o : Int} (h : Stk B w g cap (L ++ [o])) : Stk B w g cap L :=
  ⟨h.new, by have := h.le; simp at this; omega, h.max, fun j hj => by
    rw [h.holds j (by simp; omega)]; simp [List.getD_eq_getElem?_getD, List.getElem?_append_left hj], h.there, h.live⟩
theorem Stk.top {B g cap : Nat} {w : World} {L : List Int} {o : Int} (h : Stk B w g cap (L ++ [o])) : w.cell? ⟨g, L.length, none⟩ = some (.int .u8 o) := by
  rw [h.holds L.length (by simp)]; simp [List.getD_eq_getElem?_getD]

/-- 'open = append(open, c)': one way, whether or not there was room. -/
theorem wpList_push {P : Program} (w : World) {ops : Array Oper} {rest : List Oper} {o : Oper} {a : Act} {Q : Exit → Act → World → Prop}
    (hg : o.guard = none) (s x : Operand) (t : TypeId) (hop : o.op = Op.call { callee := Callee.builtin Builtin.append, args := #[s, x], argTypes := #[t, t] })
    (e : TypeId) (i : TypeInfo) (z : Value) (h1 : P.underlying t = some (.slice e)) (h2 : P.info? e = some i) (h3 : i.zero = some z) (h4 : i.size = 1) (h5 : i.bytes = 1) (h6 : z.cells.size = 1)
    (B g cap : Nat) (L : List Int) (c : Int) (hs : a.eval s = .slice (some ⟨g, 0, none⟩) L.length cap) (hst : Stk B w g cap L) (hB : B ≤ w.heap.size)
    (ad : Addr) (cc : Nat) (hx : a.eval x = .slice (some ad) 1 cc) (hc : w.cell? (ad.add 0) = some (.int .u8 c)) (hL : L.length ≤ 1048576)
    (hK : ∀ g' cap' w', Stk B w' g' cap' (L ++ [c]) → Below B w w' → wpList P ops Q rest (a.put o.dst (.slice (some ⟨g', 0, none⟩) (L.length + 1) cap')) w') :
    wpList P ops Q (o :: rest) a w := by
  have hnews : ∀ j u, ([Value.int .u8 c])[j]? = some u → w.cell? (ad.add j) = some u := by
    intro j u hj
    match j with
    | 0 => simp at hj; subst hj; exact hc
    | _ + 1 => simp at hj
  refine wpList_append_arg w hg s x t hop e i z 1 1 h1 h2 h3 h4 h5 h6 (by decide) g 0 L.length cap (L.map (Value.int .u8)) hs (by simp) ?_ ad 1 cc [.int .u8 c] hx rfl hnews (by intro u hu; simp at hu; subst hu; rfl) ?_ (by unfold maxLen; omega) (by omega) ?_ ?_
  · intro j u hj
    have hjl : j < L.length := by
      rcases Nat.lt_or_ge j L.length with h | h
      · exact h
      · simp [List.getElem?_eq_none h] at hj
    rw [Nat.zero_add, hst.holds j hjl]
    simp [List.getElem?_eq_getElem hjl] at hj
    simp [List.getD_eq_getElem?_getD, hjl, hj]
  · intro hr j hj
    simp at hj
    subst hj
    simpa using hst.there L.length (by omega)
  · intro hr
    refine hK g cap _ ⟨hst.new, by simpa using hr, hst.max, ?_, ?_, ?_⟩ ?_
    · intro j hj
      simp at hj
      show (w.setCell ⟨g, 0 + L.length * 1, none⟩ (.int .u8 c)).cell? _ = _
      rw [Nat.zero_add, Nat.mul_one]
      by_cases hjl : j = L.length
      · subst hjl
        rw [World.cell?_setCell_same' _ _ _ (hst.there _ (by omega)).1]
        simp [List.getD_eq_getElem?_getD]
      · rw [show (w.setCell ⟨g, L.length, none⟩ (.int .u8 c)).cell? ⟨g, j, none⟩ = w.cell? ⟨g, j, none⟩ from World.cell?_setCells_out g [.int .u8 c] L.length w ⟨g, j, none⟩ (fun _ _ => by simp; omega), hst.holds j (by omega)]
        simp [List.getD_eq_getElem?_getD, List.getElem?_append_left (show j < L.length by omega)]
    · intro j hj
      exact ⟨World.isSome_setCells g _ _ w _ (hst.there j hj).1, by rw [World.frozen?_setCells]; exact (hst.there j hj).2⟩
    · show g < (w.setCell ⟨g, 0 + L.length * 1, none⟩ (.int .u8 c)).heap.size
      simpa [World.setCell] using hst.live
    · exact (Below.refl B w).setCell (p := ⟨g, 0 + L.length * 1, none⟩) hst.new _
  · intro hr v' w' hown hgr
    rcases hown.2 with ⟨_, h⟩ | ⟨g', cap', cur, rfl, hbg, hh, hnc, hcm, hcs, htake⟩
    · omega
    · have hbl : Below B w w' := (Below.refl B w).grown hgr hB (fun k h => by cases h)
      refine hK g' cap' w' ⟨Nat.le_trans hB hbg, by simpa using hnc, hcm, ?_, ?_, ?_⟩ hbl
      · intro j hj
        simp at hj
        rw [cell_of_row w' g' j cur e (0, 0) hh]
        have h0 : (cur.toList.take ((L.length + 1) * 1))[j]? = (L.map (Value.int .u8) ++ [Value.int .u8 c])[j]? := by rw [htake]
        rw [List.getElem?_take, if_pos (by omega)] at h0
        simp only [Array.getElem?_toList] at h0
        rw [h0]
        by_cases hjl : j = L.length
        · subst hjl; simp [List.getD_eq_getElem?_getD]
        · have hlt : j < L.length := by omega
          rw [List.getElem?_append_left (by simpa using hlt)]
          simp [List.getD_eq_getElem?_getD, List.getElem?_append_left hlt, hlt]
      · intro j hj
        refine ⟨?_, frozen_of_row w' g' j cur e hh⟩
        rw [cell_of_row w' g' j cur e (0, 0) hh, Array.getElem?_eq_getElem (by omega)]
        rfl
      · have := Array.getElem?_eq_some_iff.mp hh
        exact this.1
end Go.Proofs.Qxb6603099a

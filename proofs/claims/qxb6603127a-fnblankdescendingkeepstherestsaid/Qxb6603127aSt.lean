import Derived.Test.Qxb6603127aWBlank
import Derived.Test.Qxb6603127aWClone
import Derived.Test.Qxb6603127aWKey
namespace Go.Proofs.Qxb6603127a
open Go.ChangeShapes Go.WideShapes Go.ChangeAt Go.RowKit
set_option linter.unusedVariables false

def upd (f : Nat → Int) (j : Nat) (x : Int) : Nat → Int := fun k => if k = j then x else f k
theorem upd_same (f : Nat → Int) (j : Nat) (x : Int) : upd f j x j = x := by simp [upd]
theorem upd_other (f : Nat → Int) {j k : Nat} (x : Int) (h : k ≠ j) : upd f j x k = f k := by simp [upd, h]

/-- A slice of ints of the call's own, whole: block g, n cells, the numbers f. -/
structure Arr (w : World) (g n : Nat) (f : Nat → Int) : Prop where
  live : g < w.heap.size
  cells : ∀ j, j < n → w.cell? ⟨g, j, none⟩ = some (.int .i64 (f j))
  free : ∀ j, j < n → w.frozen? ⟨g, j, none⟩ = false
theorem Arr.other {g h n : Nat} {w w' : World} {f : Nat → Int} (a : Arr w h n f) (hg : Grew g w w') (hne : h ≠ g) : Arr w' h n f :=
  ⟨Nat.lt_of_lt_of_le a.live hg.size, fun j hj => (hg.cell (p := ⟨h, j, none⟩) a.live hne).trans (a.cells j hj), fun j hj => (hg.frozen (p := ⟨h, j, none⟩) a.live hne).trans (a.free j hj)⟩
theorem Arr.put {g n : Nat} {w : World} {f : Nat → Int} (a : Arr w g n f) (j : Nat) (hj : j < n) (x : Int) : Arr (w.setCell ⟨g, j, none⟩ (.int .i64 x)) g n (upd f j x) := by
  refine ⟨by simpa [World.setCell] using a.live, fun k hk => ?_, fun k hk => by rw [World.frozen?_setCell]; exact a.free k hk⟩
  by_cases e : k = j
  · subst e
    rw [upd_same]
    exact World.cell?_setCell_same' _ _ _ (by rw [a.cells k hj]; rfl)
  · rw [upd_other f x e, ← a.cells k hk]
    exact World.cell?_setCells_out g [.int .i64 x] j w ⟨g, k, none⟩ (fun _ _ => by simp; omega)
theorem arr_new (w : World) (n : Nat) : Arr (w.alloc (.cells (madeCells #[.int .i64 0] n) 3)) w.heap.size n (fun _ => 0) := by
  have hh : (w.alloc (.cells (madeCells #[.int .i64 0] n) 3)).heap[w.heap.size]? = some (.cells (madeCells #[.int .i64 0] n) 3 (0, 0)) := heap_alloc_new w _
  refine ⟨by simp, fun j hj => ?_, fun j _ => frozen_of_row _ _ j _ 3 hh⟩
  rw [cell_of_row _ _ j _ 3 (0, 0) hh]
  simp [madeCells, hj, Nat.mod_one]

/-- The call's memory while it builds and blanks: w0 is the world behind the two copies, H its heap's size. -/
structure St (w0 : World) (n : Nat) (w : World) (g cap : Nat) (L : List Int) (fK fS fE fB fA : Nat → Int) : Prop where
  old : Below w0.heap.size w0 w
  k : Arr w w0.heap.size n fK
  s : Arr w (w0.heap.size + 1) n fS
  e : Arr w (w0.heap.size + 2) n fE
  b : Arr w (w0.heap.size + 3) n fB
  a : Arr w (w0.heap.size + 4) n fA
  t : Stk (w0.heap.size + 5) w g cap L
variable {w0 w w' : World} {n g g' cap cap' : Nat} {L L' : List Int} {fK fS fE fB fA : Nat → Int}
theorem St.grew (h : St w0 n w g cap L fK fS fE fB fA) (hg : Grew g w w') (ht : Stk (w0.heap.size + 5) w' g' cap' L') : St w0 n w' g' cap' L' fK fS fE fB fA := by
  have hn := h.t.new
  exact ⟨h.old.trans (hg.below h.old.size (by omega)), h.k.other hg (by omega), h.s.other hg (by omega), h.e.other hg (by omega), h.b.other hg (by omega), h.a.other hg (by omega), ht⟩
theorem St.size (h : St w0 n w g cap L fK fS fE fB fA) : w0.heap.size + 5 ≤ w.heap.size := by have := h.a.live; omega
theorem St.putK (h : St w0 n w g cap L fK fS fE fB fA) (j : Nat) (hj : j < n) (x : Int) : St w0 n (w.setCell ⟨w0.heap.size, j, none⟩ (.int .i64 x)) g cap L (upd fK j x) fS fE fB fA := by
  have hg := Grew.setCell w0.heap.size w j (.int .i64 x)
  have hn := h.t.new
  exact ⟨h.old.setCell (Nat.le_refl _) _, h.k.put j hj x, h.s.other hg (by omega), h.e.other hg (by omega), h.b.other hg (by omega), h.a.other hg (by omega), h.t.other hg (by omega)⟩
theorem St.putS (h : St w0 n w g cap L fK fS fE fB fA) (j : Nat) (hj : j < n) (x : Int) : St w0 n (w.setCell ⟨w0.heap.size + 1, j, none⟩ (.int .i64 x)) g cap L fK (upd fS j x) fE fB fA := by
  have hg := Grew.setCell (w0.heap.size + 1) w j (.int .i64 x)
  have hn := h.t.new
  exact ⟨h.old.setCell (by show _ ≤ w0.heap.size + 1; omega) _, h.k.other hg (by omega), h.s.put j hj x, h.e.other hg (by omega), h.b.other hg (by omega), h.a.other hg (by omega), h.t.other hg (by omega)⟩
theorem St.putE (h : St w0 n w g cap L fK fS fE fB fA) (j : Nat) (hj : j < n) (x : Int) : St w0 n (w.setCell ⟨w0.heap.size + 2, j, none⟩ (.int .i64 x)) g cap L fK fS (upd fE j x) fB fA := by
  have hg := Grew.setCell (w0.heap.size + 2) w j (.int .i64 x)
  have hn := h.t.new
  exact ⟨h.old.setCell (by show _ ≤ w0.heap.size + 2; omega) _, h.k.other hg (by omega), h.s.other hg (by omega), h.e.put j hj x, h.b.other hg (by omega), h.a.other hg (by omega), h.t.other hg (by omega)⟩
theorem St.putB (h : St w0 n w g cap L fK fS fE fB fA) (j : Nat) (hj : j < n) (x : Int) : St w0 n (w.setCell ⟨w0.heap.size + 3, j, none⟩ (.int .i64 x)) g cap L fK fS fE (upd fB j x) fA := by
  have hg := Grew.setCell (w0.heap.size + 3) w j (.int .i64 x)
  have hn := h.t.new
  exact ⟨h.old.setCell (by show _ ≤ w0.heap.size + 3; omega) _, h.k.other hg (by omega), h.s.other hg (by omega), h.e.other hg (by omega), h.b.put j hj x, h.a.other hg (by omega), h.t.other hg (by omega)⟩
theorem St.putA (h : St w0 n w g cap L fK fS fE fB fA) (j : Nat) (hj : j < n) (x : Int) : St w0 n (w.setCell ⟨w0.heap.size + 4, j, none⟩ (.int .i64 x)) g cap L fK fS fE fB (upd fA j x) := by
  have hg := Grew.setCell (w0.heap.size + 4) w j (.int .i64 x)
  have hn := h.t.new
  exact ⟨h.old.setCell (by show _ ≤ w0.heap.size + 4; omega) _, h.k.other hg (by omega), h.s.other hg (by omega), h.e.other hg (by omega), h.b.other hg (by omega), h.a.put j hj x, h.t.other hg (by omega)⟩
theorem St.drewN (h : St w0 n w g cap L fK fS fE fB fA) (k : Nat) : St w0 n (w.drewN k) g cap L fK fS fE fB fA :=
  h.grew (Grew.drewN g w k) (h.t.other (Grew.drewN (g + 1) w k) (by omega))

theorem st_new (w0 : World) (n c : Nat) (w6 : World) (A1 : Obj) (hA : A1 = .cells (madeCells #[.int .i64 0] n) 3)
    (hown : w6.ownsRow (w0.heap.size + 5) 5 1 (.slice (some ⟨w0.heap.size + 5, 0, none⟩) 0 c) 0 []) (hgr : (((((w0.alloc A1).alloc A1).alloc A1).alloc A1).alloc A1).grownBy w6 none) :
    St w0 n w6 (w0.heap.size + 5) c [] (fun _ => 0) (fun _ => 0) (fun _ => 0) (fun _ => 0) (fun _ => 0) := by
  subst hA
  have hG : ∀ (x : Nat) (u v : World), u.grownBy v none → Grew x u v := fun x u v h => ⟨h.os, h.tape, h.output, h.size, fun k hk _ => h.block k hk (by simp)⟩
  have h6 := fun x => hG x _ _ hgr
  refine ⟨?_, ?_, ?_, ?_, ?_, ?_, ⟨hown, ?_⟩⟩
  · exact ((((((Below.refl _ w0).alloc (Nat.le_refl _) _).alloc (by simp) _).alloc (by simp; omega) _).alloc (by simp; omega) _).alloc (by simp; omega) _).grown hgr (by simp; omega) (fun k h => by cases h)
  · exact (((((arr_new w0 n).other (Grew.alloc (w0.heap.size + 9) _ _) (by omega)).other (Grew.alloc (w0.heap.size + 9) _ _) (by omega)).other (Grew.alloc (w0.heap.size + 9) _ _) (by omega)).other (Grew.alloc (w0.heap.size + 9) _ _) (by omega)).other (h6 (w0.heap.size + 9)) (by omega)
  · have := arr_new (w0.alloc (.cells (madeCells #[.int .i64 0] n) 3)) n
    simp only [World.size_alloc] at this
    exact (((this.other (Grew.alloc (w0.heap.size + 9) _ _) (by omega)).other (Grew.alloc (w0.heap.size + 9) _ _) (by omega)).other (Grew.alloc (w0.heap.size + 9) _ _) (by omega)).other (h6 (w0.heap.size + 9)) (by omega)
  · have := arr_new ((w0.alloc (.cells (madeCells #[.int .i64 0] n) 3)).alloc (.cells (madeCells #[.int .i64 0] n) 3)) n
    simp only [World.size_alloc] at this
    exact ((this.other (Grew.alloc (w0.heap.size + 9) _ _) (by omega)).other (Grew.alloc (w0.heap.size + 9) _ _) (by omega)).other (h6 (w0.heap.size + 9)) (by omega)
  · have := arr_new (((w0.alloc (.cells (madeCells #[.int .i64 0] n) 3)).alloc (.cells (madeCells #[.int .i64 0] n) 3)).alloc (.cells (madeCells #[.int .i64 0] n) 3)) n
    simp only [World.size_alloc] at this
    exact (this.other (Grew.alloc (w0.heap.size + 9) _ _) (by omega)).other (h6 (w0.heap.size + 9)) (by omega)
  · have := arr_new ((((w0.alloc (.cells (madeCells #[.int .i64 0] n) 3)).alloc (.cells (madeCells #[.int .i64 0] n) 3)).alloc (.cells (madeCells #[.int .i64 0] n) 3)).alloc (.cells (madeCells #[.int .i64 0] n) 3)) n
    simp only [World.size_alloc] at this
    exact this.other (h6 (w0.heap.size + 9)) (by omega)
  · rcases hown.2 with ⟨h, _⟩ | ⟨g, cp, cur, hv, _, hh, _⟩
    · cases h
    · simp at hv
      have := (Array.getElem?_eq_some_iff.mp hh).1
      omega

/-- What the five slices hold of the first i members. -/
def Spec (m : Nat → List Int) (sp : List Int) (i : Nat) (fK fE fB fA : Nat → Int) : Prop := ∀ j, j < i →
  fK j = (((Pl.A m sp j).length + (Pl.sf sp j).length : Nat) : Int) ∧ fE j = ((Pl.A m sp (j + 1)).length : Int) ∧ fB j = (if j = 0 then -1 else ((Pl.A m sp j).length : Int)) ∧ fA j = (if j + 1 < i then ((Pl.A m sp (j + 1)).length : Int) else -1)
theorem spec_zero (m : Nat → List Int) (sp : List Int) (fK fE fB fA : Nat → Int) : Spec m sp 0 fK fE fB fA := fun j hj => by omega
theorem spec_first {m : Nat → List Int} {sp : List Int} (fK fE fB fA : Nat → Int) :
    Spec m sp 1 (upd fK 0 (((Pl.A m sp 0).length + (Pl.sf sp 0).length : Nat) : Int)) (upd fE 0 ((Pl.A m sp 1).length : Int)) (upd fB 0 (-1)) (upd fA 0 (-1)) := by
  intro j hj
  have : j = 0 := by omega
  subst this
  simp [upd]
theorem spec_step {m : Nat → List Int} {sp : List Int} {i : Nat} {fK fE fB fA : Nat → Int} (h : Spec m sp i fK fE fB fA) (hi : 0 < i) :
    Spec m sp (i + 1) (upd fK i (((Pl.A m sp i).length + (Pl.sf sp i).length : Nat) : Int)) (upd fE i ((Pl.A m sp (i + 1)).length : Int)) (upd (upd fB i (-1)) i ((Pl.A m sp i).length : Int)) (upd (upd fA i (-1)) (i - 1) ((Pl.A m sp i).length : Int)) := by
  intro j hj
  by_cases e : j = i
  · subst e
    refine ⟨upd_same _ _ _, upd_same _ _ _, by rw [upd_same, if_neg (by omega)], ?_⟩
    rw [upd_other _ _ (by omega), upd_same, if_neg (by omega)]
  · obtain ⟨h1, h2, h3, h4⟩ := h j (by omega)
    refine ⟨by rw [upd_other _ _ e, h1], by rw [upd_other _ _ e, h2], by rw [upd_other _ _ e, upd_other _ _ e, h3], ?_⟩
    by_cases e2 : j = i - 1
    · subst e2
      rw [upd_same, if_pos (by omega), show i - 1 + 1 = i by omega]
    · rw [upd_other _ _ e2, upd_other _ _ e, h4, if_pos (by omega), if_pos (by omega)]
theorem A_succ (m : Nat → List Int) (sp : List Int) (i : Nat) : Pl.A m sp (i + 1) = Pl.A m sp i ++ Pl.sf sp i ++ m i := rfl
theorem A_len (u : Nat → Nat) (sp : List Int) (hs : sp.length ≤ 1) (k : Nat) (hk : k ≤ 8192) : (Pl.A (Pl.mem u) sp k).length ≤ 400000 := by
  have := Pl.A_len_le (Pl.mem u) sp 44 (fun i => by rw [Pl.mem_len, Pl.key_len]; have := Pl.dec_len i; have := Pl.dec_len (u i); omega) hs k
  omega
theorem A_pos (m : Nat → List Int) (sp : List Int) : ∀ k, 0 < (Pl.A m sp k).length
  | 0 => by simp [Pl.A]
  | k + 1 => by have := A_pos m sp k; simp [Pl.A]; omega
def spL (s : Bool) : List Int := if s = true then [32] else []
theorem spL_len (s : Bool) : (spL s).length ≤ 1 := by unfold spL; split <;> simp
theorem spL_F (s : Bool) : Pl.F (spL s) = [] := by unfold spL; split <;> rfl
end Go.Proofs.Qxb6603127a

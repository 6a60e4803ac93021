import Derived.Test.Qxb6603127aSt2
namespace Go.Proofs.Qxb6603127a
open Go.ChangeShapes Go.WideShapes Go.ChangeAt Go.RowKit
set_option linter.unusedVariables false

/-- The call's memory while 'want' is built and compared: the text T in block g1, 'want' V in block g2. -/
structure St3 (w0 w : World) (g1 cap1 : Nat) (T : List Int) (g2 cap2 : Nat) (V : List Int) : Prop where
  old : Below w0.heap.size w0 w
  t : Stk (w0.heap.size + 5) w g1 cap1 T
  v : Stk (w0.heap.size + 5) w g2 cap2 V
  ne : g1 ≠ g2
variable {w0 w w' : World} {g1 cap1 g2 cap2 g3 cap3 : Nat} {T V V' : List Int}
theorem St3.size (h : St3 w0 w g1 cap1 T g2 cap2 V) : w0.heap.size + 5 ≤ w.heap.size := by
  have := h.t.new; have := h.t.live; omega
theorem St3.push (h : St3 w0 w g1 cap1 T g2 cap2 V) (hg : Grew g2 w w') (hv : Stk (w0.heap.size + 5) w' g3 cap3 V') (hat : g3 = g2 ∨ w.heap.size ≤ g3) : St3 w0 w' g1 cap1 T g3 cap3 V' := by
  have h1 := h.v.new
  have h2 := h.t.live
  have h3 := h.ne
  exact ⟨h.old.trans (hg.below h.old.size (by omega)), h.t.other hg h.ne, hv, by omega⟩

theorem F_take_succ (T : List Int) (i : Nat) (h : i < T.length) : Pl.F (T.take (i + 1)) = Pl.F (T.take i) ++ Pl.F [T.getD i 0] := by
  rw [List.take_add_one, Pl.F_app]
  simp [List.getD_eq_getElem?_getD, h]
theorem F_split (T : List Int) (i : Nat) (h : i < T.length) (hc : T.getD i 0 ≠ 32) : Pl.F T = Pl.F (T.take i) ++ T.getD i 0 :: Pl.F (T.drop (i + 1)) := by
  have e : T = T.take i ++ T.getD i 0 :: T.drop (i + 1) := by
    have := List.take_append_drop i T
    rw [List.drop_eq_getElem_cons h] at this
    have e2 : T[i] = T.getD i 0 := by simp [List.getD_eq_getElem?_getD, h]
    rw [e2] at this
    exact this.symm
  have h2 : Pl.F (T.take i ++ T.getD i 0 :: T.drop (i + 1)) = Pl.F (T.take i) ++ T.getD i 0 :: Pl.F (T.drop (i + 1)) := by rw [Pl.F_app, Pl.F_cons _ _ hc]
  rw [← e] at h2
  exact h2
/-- The comparing loop's step at a byte that is no blank. -/
theorem cmp_hit (T W : List Int) (i : Nat) (h : i < T.length) (hc : T.getD i 0 ≠ 32) (hF : Pl.F T = W) :
    (Pl.F (T.take i)).length < W.length ∧ W.getD (Pl.F (T.take i)).length 0 = T.getD i 0 ∧ (Pl.F (T.take (i + 1))).length = (Pl.F (T.take i)).length + 1 := by
  have hs := F_split T i h hc
  rw [hF] at hs
  refine ⟨by rw [hs]; simp, by rw [hs]; exact getD_mid _ _ _ _ rfl, ?_⟩
  rw [F_take_succ T i h, Pl.F_cons _ _ hc]
  simp [Pl.F]
theorem cmp_blank (T : List Int) (i : Nat) (h : i < T.length) (hc : T.getD i 0 = 32) : (Pl.F (T.take (i + 1))).length = (Pl.F (T.take i)).length := by
  rw [F_take_succ T i h, hc, Pl.F_32]
  simp [Pl.F]
theorem F_le (T : List Int) : (Pl.F T).length ≤ T.length := List.length_filter_le _ _

/-- 'want', round by round. -/
theorem V_drop (m : Nat → List Int) (dr : Nat → Bool) (i : Nat) (h : dr i = true) : Pl.V m dr (i + 1) = Pl.V m dr i ∧ Pl.al dr (i + 1) = Pl.al dr i := by
  constructor
  · simp only [Pl.V]; rw [if_pos h]
  · show (Pl.al dr i || !dr i) = _
    rw [h]; simp
theorem V_keep1 (m : Nat → List Int) (dr : Nat → Bool) (i : Nat) (h : dr i = false) (ha : Pl.al dr i = true) : Pl.V m dr (i + 1) = Pl.V m dr i ++ [44] ++ m i := by
  simp only [Pl.V]; rw [if_neg (by rw [h]; simp), if_pos ha]
theorem V_keep0 (m : Nat → List Int) (dr : Nat → Bool) (i : Nat) (h : dr i = false) (ha : Pl.al dr i = false) : Pl.V m dr (i + 1) = Pl.V m dr i ++ m i := by
  simp only [Pl.V]; rw [if_neg (by rw [h]; simp), if_neg (by rw [ha]; simp), List.append_nil]
theorem al_keep (dr : Nat → Bool) (i : Nat) (h : dr i = false) : Pl.al dr (i + 1) = true := by
  show (Pl.al dr i || !dr i) = true
  rw [h]; simp
theorem V_len (u : Nat → Nat) (dr : Nat → Bool) (k : Nat) (hk : k ≤ 8192) : (Pl.V (Pl.mem u) dr k).length ≤ 400000 := by
  have := Pl.V_len_le (Pl.mem u) dr 44 (fun i => by rw [Pl.mem_len, Pl.key_len]; have := Pl.dec_len i; have := Pl.dec_len (u i); omega) k
  omega
theorem V_new (w0 w : World) (g1 cap1 c : Nat) (T : List Int) (w' : World) (hold : Below w0.heap.size w0 w) (ht : Stk (w0.heap.size + 5) w g1 cap1 T) (hsz : w0.heap.size + 5 ≤ w.heap.size)
    (hown : w'.ownsRow (w0.heap.size + 5) 5 1 (.slice (some ⟨w.heap.size, 0, none⟩) 0 c) 0 []) (hgr : w.grownBy w' none) : St3 w0 w' g1 cap1 T w.heap.size c [] := by
  have hG : Grew (w.heap.size + 9) w w' := ⟨hgr.os, hgr.tape, hgr.output, hgr.size, fun k hk _ => hgr.block k hk (by simp)⟩
  have hl := ht.live
  refine ⟨hold.trans (hG.below (by omega) (by omega)), ht.other hG (by omega), ⟨hown, ?_⟩, by omega⟩
  rcases hown.2 with ⟨h, _⟩ | ⟨g, cp, cur, hv, _, hh, _⟩
  · cases h
  · simp at hv
    have := (Array.getElem?_eq_some_iff.mp hh).1
    omega
end Go.Proofs.Qxb6603127a

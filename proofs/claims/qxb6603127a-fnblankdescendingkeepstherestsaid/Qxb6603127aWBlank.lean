import Derived.Test.Qxb6603127aMem
import Derived.Deep.LoopGhost
import Derived.Deep.CutRange
import Derived.Deep.CutBlock
import Derived.Deep.QuietTactic
import Derived.BigQuiet
namespace Go.Proofs.Qxb6603127a
open Go.ChangeShapes Go.WideShapes Go.ChangeAt Go.RowKit
set_option linter.unusedVariables false

theorem blank_none (fr : Nat) (L : List Int) (h : fr ≤ L.length) : Pl.blank fr fr L = L := by
  unfold Pl.blank Pl.sps; simp
theorem blank_len (fr tz : Nat) (L : List Int) (h1 : fr ≤ tz) (h2 : tz ≤ L.length) : (Pl.blank fr tz L).length = L.length := by
  unfold Pl.blank Pl.sps; simp; omega
theorem blank_get (fr k j : Nat) (L : List Int) (h1 : fr ≤ k) (h2 : k ≤ L.length) : (Pl.blank fr k L)[j]? = if fr ≤ j ∧ j < k then some 32 else L[j]? := by
  unfold Pl.blank Pl.sps
  by_cases ha : j < fr
  · rw [if_neg (by omega), List.append_assoc, List.getElem?_append_left (by simp; omega), List.getElem?_take, if_pos ha]
  · by_cases hb : j < k
    · rw [if_pos ⟨by omega, hb⟩, List.getElem?_append_left (by simp; omega), List.getElem?_append_right (by simp; omega), List.getElem?_replicate, if_pos (by simp; omega)]
    · rw [if_neg (by omega), List.getElem?_append_right (by simp; omega), List.getElem?_drop]
      congr 1; simp; omega
theorem blank_step (fr i : Nat) (L : List Int) (h1 : fr ≤ i) (h2 : i < L.length) : (Pl.blank fr i L).set i 32 = Pl.blank fr (i + 1) L := by
  apply List.ext_getElem?
  intro j
  rw [List.getElem?_set, blank_get fr (i + 1) j L (by omega) (by omega), blank_get fr i j L h1 (by omega), blank_len fr i L h1 (by omega)]
  by_cases e : i = j
  · subst e; rw [if_pos rfl, if_pos h2, if_pos ⟨h1, by omega⟩]
  · rw [if_neg e]
    by_cases hc : fr ≤ j ∧ j < i
    · rw [if_pos hc, if_pos (by omega)]
    · rw [if_neg hc, if_neg (by omega)]

/-- How blank comes tz its range. -/
def Range (L : List Int) (ks en cb ca : Int) (fr tz : Nat) : Prop :=
  (∃ p : Nat, ca = p ∧ p < L.length ∧ L.getD p 0 = 44 ∧ ks = fr ∧ (tz : Int) = p + 1) ∨
  ((ca = -1 ∨ ∃ p : Nat, ca = p ∧ p < L.length ∧ L.getD p 0 ≠ 44) ∧ en = tz ∧ (cb = fr ∨ (cb = -1 ∧ ks = fr)))

set_option maxRecDepth 20000 in
set_option maxHeartbeats 400000 in
theorem blank_any (B g cap : Nat) (L : List Int) (st en ks cb ca : Int) (fr tz : Nat) (w : World) (hB : B ≤ w.heap.size) (hst : Stk B w g cap L) (hR : Range L ks en cb ca fr tz) (h1 : fr ≤ tz) (h2 : tz ≤ L.length) (hL : L.length ≤ 10000000) :
    Calls Try.prog 10 #[.slice (some ⟨g, 0, none⟩) L.length cap, .agg #[.int .i64 st, .int .i64 en, .int .i64 ks, .int .i64 cb, .int .i64 ca]] w fun e w' =>
      e = .returned (.tuple #[]) ∧ Stk B w' g cap (Pl.blank fr tz L) ∧ Grew g w w' := by
  have HR : Hid (Range L ks en cb ca fr tz) := hR
  have hgl := hst.live
  have HS : Hid (∀ o k, Stk B ((w.alloc o).drewN k) g cap L) := fun o k => (hst.alloc o).other (Grew.drewN (g + 1) _ k) (by omega)
  have HG : Hid (∀ o k, Grew g w ((w.alloc o).drewN k)) := fun o k => (Grew.alloc g w o).trans (Grew.drewN g _ k) (.inl rfl)
  clear hst hR
  go_enter Try.func10, Try.ntmps10
  go_wp2_with fail
  go_quiet (fail)
  go_upto_block 0 with fail
  have HS1 : Hid _ := HS.out (.cells #[.int .i64 st, .int .i64 en, .int .i64 ks, .int .i64 cb, .int .i64 ca] 39) nq
  have HG1 : Hid _ := HG.out (.cells #[.int .i64 st, .int .i64 en, .int .i64 ks, .int .i64 cb, .int .i64 ca] 39) nq
  have hm : ((w.alloc (.cells #[.int .i64 st, .int .i64 en, .int .i64 ks, .int .i64 cb, .int .i64 ca] 39)).drewN nq).cell? ⟨w.heap.size, 4, none⟩ = some (.int .i64 ca) ∧ ((w.alloc (.cells #[.int .i64 st, .int .i64 en, .int .i64 ks, .int .i64 cb, .int .i64 ca] 39)).drewN nq).cell? ⟨w.heap.size, 3, none⟩ = some (.int .i64 cb) := by
    constructor <;> simp
  clear HS HG
  generalize (w.alloc (.cells #[.int .i64 st, .int .i64 en, .int .i64 ks, .int .i64 cb, .int .i64 ca] 39)).drewN nq = w1 at HS1 HG1 hm ⊢
  obtain ⟨hm1, hm2⟩ := hm
  go_cut [4, 5] from 7 (fun x4 x5 w' => x4 = .int .i64 fr ∧ x5 = .int .i64 tz ∧ w' = w1)
  case first =>
    rcases HR.out with ⟨p, rfl, hp, h44, rfl, hto⟩ | ⟨hca, rfl, hcb⟩
    · have hcp := HS1.out.cell p hp
      rw [h44] at hcp
      have HTO : Hid ((tz : Int) = p + 1) := hto
      clear h44 hto HR
      go_wp2
      go_meet
      case rel => exact ⟨rfl, by rw [HTO.out], rfl⟩
    · rcases hca with rfl | ⟨p, rfl, hp, h44⟩
      · rcases hcb with rfl | ⟨rfl, rfl⟩
        · clear HR
          go_wp2
          go_meet
          case rel => exact ⟨rfl, rfl, rfl⟩
        · clear HR
          go_wp2
          go_meet
          case rel => exact ⟨rfl, rfl, rfl⟩
      · have hcp := HS1.out.cell p hp
        obtain ⟨c, hc⟩ : ∃ c, c = L.getD p 0 := ⟨_, rfl⟩
        rw [← hc] at hcp h44
        have h45 : (c == 44) = false := by simpa using h44
        clear h44 hc
        rcases hcb with rfl | ⟨rfl, rfl⟩
        · clear HR
          go_wp2
          go_meet
          case rel => exact ⟨rfl, rfl, rfl⟩
        · clear HR
          go_wp2
          go_meet
          case rel => exact ⟨rfl, rfl, rfl⟩
  case rest =>
    obtain ⟨rfl, rfl, rfl⟩ := hcut
    clear hm1 hm2 HR
    go_wp2_with fail
    go_loopg [6] tz (fun x x6 wr => ∃ i : Nat, x6 = .int .i64 i ∧ fr ≤ i ∧ i ≤ tz ∧ tz ≤ i + x ∧ Stk B wr g cap (Pl.blank fr i L) ∧ Grew g w wr)
    case atStart => exact ⟨fr, rfl, Nat.le_refl _, h1, by omega, by rw [blank_none fr L (by omega)]; exact HS1.out, HG1.out⟩
    case round =>
      clear HS1 HG1
      obtain ⟨i, rfl, hi1, hi2, hix, hst, hgr⟩ := hrel
      by_cases hlt : i < tz
      · have hbl := blank_len fr i L hi1 (by omega)
        have hci := hst.cell i (by omega)
        have hfi := hst.free i
        have HS2 : Hid (Stk B (wr.setCell ⟨g, i, none⟩ (.int .u8 32)) g cap (Pl.blank fr (i + 1) L)) := by
          have := hst.put i 32
          rw [blank_step fr i L hi1 (by omega)] at this
          exact this
        have HG2 : Hid (Grew g w (wr.setCell ⟨g, i, none⟩ (.int .u8 32))) := hgr.trans (Grew.setCell g wr i _) (.inl rfl)
        clear hst hgr hbl
        obtain ⟨c0, hc0⟩ : ∃ c0, c0 = (Pl.blank fr i L).getD i 0 := ⟨_, rfl⟩
        rw [← hc0] at hci
        clear hc0
        go_wp2_with fail
        go_roundg (tz - (i + 1))
        case measure => omega
        case rel => exact ⟨i + 1, by go_num, by omega, by omega, by omega, HS2.out, HG2.out⟩
      · have e : i = tz := by omega
        subst e
        have HS2 : Hid _ := hst
        have HG2 : Hid _ := hgr
        clear hst hgr
        go_wp2_with fail
        go_end0
        exact ⟨rfl, HS2.out, HG2.out⟩

theorem zzBlank_any (B g cap : Nat) (L : List Int) (st en ks cb ca : Int) (fr tz : Nat) (w : World) (hB : B ≤ w.heap.size) (hst : Stk B w g cap L) (hR : Range L ks en cb ca fr tz) (h1 : fr ≤ tz) (h2 : tz ≤ L.length) (hL : L.length ≤ 10000000) :
    Calls Try.prog 9 #[.slice (some ⟨g, 0, none⟩) L.length cap, .int .i64 st, .int .i64 en, .int .i64 ks, .int .i64 cb, .int .i64 ca] w fun e w' =>
      e = .returned (.tuple #[]) ∧ Stk B w' g cap (Pl.blank fr tz L) ∧ Grew g w w' := by
  have H : Hid _ := blank_any B g cap L st en ks cb ca fr tz w hB hst hR h1 h2 hL
  clear hst hR
  go_enter Try.func9, Try.ntmps9
  go_wp2_with fail
  refine (Calls.mono H.out) ?_
  rintro e w1 ⟨rfl, hs1, hg1⟩
  have HS1 : Hid _ := hs1
  have HG1 : Hid _ := hg1
  clear hs1 hg1
  go_wp2_with fail
  go_end0
  exact ⟨rfl, HS1.out, HG1.out⟩
end Go.Proofs.Qxb6603127a

/-
  The walks of (*finder).find and of the finder's test.
-/
import Derived.Test.Qxb6604422aPair
namespace Go.Proofs.Qxb6604422a
open Go.RowKit

/-- A finder lies in block F: its test's captured variable in T, what it holds in the map H, its open searches in the row O (ol of them), what it is inside of in the map I. -/
def Fin (w : World) (F T H O c I ol : Nat) : Prop :=
  w.heap[F]? = some (.cells #[.func (.func 13) #[] #[.pointer (some ⟨T, 0, none⟩)], .map (some H), .slice (some ⟨O, 0, none⟩) ol c, .map (some I)] 39 (0, 0))
theorem Fin.cells {w : World} {F T H O c I ol : Nat} (h : Fin w F T H O c I ol) :
    w.cell? ⟨F, 0, none⟩ = some (.func (.func 13) #[] #[.pointer (some ⟨T, 0, none⟩)]) ∧ w.cell? ⟨F, 1, none⟩ = some (.map (some H)) ∧ w.cell? ⟨F, 2, none⟩ = some (.slice (some ⟨O, 0, none⟩) ol c) ∧ w.cell? ⟨F, 3, none⟩ = some (.map (some I)) := by
  refine ⟨?_, ?_, ?_, ?_⟩ <;> (rw [cell_of_row w F _ _ 39 (0, 0) h]; rfl)
theorem Fin.free {w : World} {F T H O c I ol : Nat} (h : Fin w F T H O c I ol) (k : Nat) : w.frozen? ⟨F, k, none⟩ = false := frozen_of_row w F k _ 39 h
theorem Fin.keep {X : List Nat} {w w' : World} (hU : Upd X w w') {F T H O c I ol : Nat} (hF : F ∉ X) (h : Fin w F T H O c I ol) : Fin w' F T H O c I ol := (hU.block F hF).trans h

theorem test_any (x : Value) (T : Nat) (b : Bool) (w : World) (h : w.cell? ⟨T, 0, none⟩ = some (.bool b)) :
    Calls Try.prog 13 #[x, .pointer (some ⟨T, 0, none⟩)] w fun e w' => e = .returned (.bool b) ∧ w' = w := by
  go_enter Try.func13, Try.ntmps13
  go_wp2
  go_ret
  exact ⟨rfl, rfl⟩

/-- No search is open. -/
theorem find_shut (F T H O c I p : Nat) (L : List Nat) (w : World) (hF : Fin w F T H O c I 0) (hM : MapIs w H (L.map (kp 32))) (hp : Plain w p) (hL : ∀ q ∈ L, Plain w q) (hFH : F ≠ H) :
    Calls Try.prog 16 #[.pointer (some ⟨F, 0, none⟩), kp 32 p] w fun e w' => e = .returned (.tuple #[]) ∧ MapIs w' H ((add L p).map (kp 32)) ∧ Upd [H] w w' := by
  obtain ⟨c0, c1, c2, c3⟩ := hF.cells
  obtain ⟨w1, hrun, hM1, hU1⟩ := run_put ptr32 Try.underlying36 hM hp hL
  obtain ⟨d0, d1, d2, d3⟩ := (hF.keep hU1 (by simp [hFH])).cells
  unfold kp at hrun
  show Calls Try.prog 16 #[.pointer (some ⟨F, 0, none⟩), .iface 32 (.pointer (some ⟨p, 0, none⟩))] w _
  go_enter Try.func16, Try.ntmps16
  go_wp2
  go_end0
  exact ⟨rfl, hM1, hU1⟩

set_option maxHeartbeats 800000 in
/-- One search is open: it is marked. -/
theorem find_open (F T H O c I S p : Nat) (L : List Nat) (of at_ : Value) (rd : Bool) (slow : Value) (cn : Int) (en : Bool) (vn : Int) (hs : Bool) (w : World) (hF : Fin w F T H O c I 1) (hO : w.cell? ⟨O, 0, none⟩ = some (.pointer (some ⟨S, 0, none⟩))) (hS : Sea w S of at_ rd slow cn en vn hs)
    (hM : MapIs w H (L.map (kp 32))) (hp : Plain w p) (hL : ∀ q ∈ L, Plain w q) (hFH : F ≠ H) (hOH : O ≠ H) (hSH : S ≠ H) :
    Calls Try.prog 16 #[.pointer (some ⟨F, 0, none⟩), kp 32 p] w fun e w' => e = .returned (.tuple #[]) ∧ MapIs w' H ((add L p).map (kp 32)) ∧ Sea w' S of at_ rd slow cn en vn true ∧ Upd [S, H] w w' := by
  obtain ⟨c0, c1, c2, c3⟩ := hF.cells
  obtain ⟨w1, hrun, hM1, hU1⟩ := run_put ptr32 Try.underlying36 hM hp hL
  obtain ⟨d0, d1, d2, d3⟩ := (hF.keep hU1 (by simp [hFH])).cells
  have hS1 := hS.keep hU1 (by simp [hSH])
  obtain ⟨_, _, _, _, _, _, _, s7⟩ := hS1.cells
  have f7 := hS1.free 7
  have o0 := (hU1.cell (p := ⟨O, 0, none⟩) (by simp [hOH])).trans hO
  have HS : Hid (Sea w1 S of at_ rd slow cn en vn hs) := hS1
  clear hS hS1 hO
  unfold kp at hrun
  show Calls Try.prog 16 #[.pointer (some ⟨F, 0, none⟩), .iface 32 (.pointer (some ⟨p, 0, none⟩))] w _
  go_enter Try.func16, Try.ntmps16
  go_wp2
  go_region
  all_goals
    go_end0
    have hU2 : Upd [S] w1 (w1.setCell ⟨S, 7, none⟩ (.bool true)).drew := ((Upd.refl _ _).setCell ⟨S, 7, none⟩ (by simp) _).drew
    exact ⟨rfl, hU2.map (by simp [Ne.symm hSH]) hM1, HS.out.set7 true, (hU1.mono (by simp)).trans (hU2.mono (by simp))⟩
end Go.Proofs.Qxb6604422a

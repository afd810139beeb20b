/-
  The walk of (*cursor).pair.
-/
import Derived.Test.Qxb6604422aMaps
import Derived.Deep.QuietTactic
import Derived.BigQuiet
namespace Go.Proofs.Qxb6604422a
open Go.RowKit

/-- A search lies in block S. -/
def Sea (w : World) (S : Nat) (of at_ : Value) (rd : Bool) (slow : Value) (cn : Int) (en : Bool) (vn : Int) (hs : Bool) : Prop :=
  w.heap[S]? = some (.cells #[of, at_, .bool rd, slow, .int .i64 cn, .bool en, .int .i64 vn, .bool hs] 48 (0, 0))
/-- A pair lies in block p. -/
def Pr (w : World) (p : Nat) (car cdr : Value) : Prop := w.heap[p]? = some (.cells #[car, cdr] 50 (0, 0))

theorem Sea.cells {w : World} {S : Nat} {of at_ : Value} {rd : Bool} {slow : Value} {cn : Int} {en : Bool} {vn : Int} {hs : Bool} (h : Sea w S of at_ rd slow cn en vn hs) :
    w.cell? ⟨S, 0, none⟩ = some of ∧ w.cell? ⟨S, 1, none⟩ = some at_ ∧ w.cell? ⟨S, 2, none⟩ = some (.bool rd) ∧ w.cell? ⟨S, 3, none⟩ = some slow ∧ w.cell? ⟨S, 4, none⟩ = some (.int .i64 cn) ∧ w.cell? ⟨S, 5, none⟩ = some (.bool en) ∧ w.cell? ⟨S, 6, none⟩ = some (.int .i64 vn) ∧ w.cell? ⟨S, 7, none⟩ = some (.bool hs) := by
  refine ⟨?_, ?_, ?_, ?_, ?_, ?_, ?_, ?_⟩ <;> (rw [cell_of_row w S _ _ 48 (0, 0) h]; rfl)
theorem Sea.free {w : World} {S : Nat} {of at_ : Value} {rd : Bool} {slow : Value} {cn : Int} {en : Bool} {vn : Int} {hs : Bool} (h : Sea w S of at_ rd slow cn en vn hs) (k : Nat) : w.frozen? ⟨S, k, none⟩ = false := frozen_of_row w S k _ 48 h
theorem Pr.cells {w : World} {p : Nat} {car cdr : Value} (h : Pr w p car cdr) : w.cell? ⟨p, 0, none⟩ = some car ∧ w.cell? ⟨p, 1, none⟩ = some cdr := by
  refine ⟨?_, ?_⟩ <;> (rw [cell_of_row w p _ _ 50 (0, 0) h]; rfl)
theorem Pr.plain {w : World} {p : Nat} {car cdr : Value} (h : Pr w p car cdr) : Plain w p := ⟨_, _, h⟩

theorem Sea.set1 {w : World} {S : Nat} {of at_ : Value} {rd : Bool} {slow : Value} {cn : Int} {en : Bool} {vn : Int} {hs : Bool} (h : Sea w S of at_ rd slow cn en vn hs) (x : Value) : Sea (w.setCell ⟨S, 1, none⟩ (x)) S of x rd slow cn en vn hs := by
  unfold Sea
  rw [heap_setCell_same w S 1 _ 48 _ h]; rfl
theorem Sea.set2 {w : World} {S : Nat} {of at_ : Value} {rd : Bool} {slow : Value} {cn : Int} {en : Bool} {vn : Int} {hs : Bool} (h : Sea w S of at_ rd slow cn en vn hs) (x : Bool) : Sea (w.setCell ⟨S, 2, none⟩ (.bool x)) S of at_ x slow cn en vn hs := by
  unfold Sea
  rw [heap_setCell_same w S 2 _ 48 _ h]; rfl
theorem Sea.set3 {w : World} {S : Nat} {of at_ : Value} {rd : Bool} {slow : Value} {cn : Int} {en : Bool} {vn : Int} {hs : Bool} (h : Sea w S of at_ rd slow cn en vn hs) (x : Value) : Sea (w.setCell ⟨S, 3, none⟩ (x)) S of at_ rd x cn en vn hs := by
  unfold Sea
  rw [heap_setCell_same w S 3 _ 48 _ h]; rfl
theorem Sea.set4 {w : World} {S : Nat} {of at_ : Value} {rd : Bool} {slow : Value} {cn : Int} {en : Bool} {vn : Int} {hs : Bool} (h : Sea w S of at_ rd slow cn en vn hs) (x : Int) : Sea (w.setCell ⟨S, 4, none⟩ (.int .i64 x)) S of at_ rd slow x en vn hs := by
  unfold Sea
  rw [heap_setCell_same w S 4 _ 48 _ h]; rfl
theorem Sea.set5 {w : World} {S : Nat} {of at_ : Value} {rd : Bool} {slow : Value} {cn : Int} {en : Bool} {vn : Int} {hs : Bool} (h : Sea w S of at_ rd slow cn en vn hs) (x : Bool) : Sea (w.setCell ⟨S, 5, none⟩ (.bool x)) S of at_ rd slow cn x vn hs := by
  unfold Sea
  rw [heap_setCell_same w S 5 _ 48 _ h]; rfl
theorem Sea.set6 {w : World} {S : Nat} {of at_ : Value} {rd : Bool} {slow : Value} {cn : Int} {en : Bool} {vn : Int} {hs : Bool} (h : Sea w S of at_ rd slow cn en vn hs) (x : Int) : Sea (w.setCell ⟨S, 6, none⟩ (.int .i64 x)) S of at_ rd slow cn en x hs := by
  unfold Sea
  rw [heap_setCell_same w S 6 _ 48 _ h]; rfl
theorem Sea.set7 {w : World} {S : Nat} {of at_ : Value} {rd : Bool} {slow : Value} {cn : Int} {en : Bool} {vn : Int} {hs : Bool} (h : Sea w S of at_ rd slow cn en vn hs) (x : Bool) : Sea (w.setCell ⟨S, 7, none⟩ (.bool x)) S of at_ rd slow cn en vn x := by
  unfold Sea
  rw [heap_setCell_same w S 7 _ 48 _ h]; rfl
theorem Sea.drews {w : World} {S : Nat} {of at_ : Value} {rd : Bool} {slow : Value} {cn : Int} {en : Bool} {vn : Int} {hs : Bool} (h : Sea w S of at_ rd slow cn en vn hs) (n : Nat) : Sea (w.drewN n) S of at_ rd slow cn en vn hs := h
theorem Sea.keep {X : List Nat} {w w' : World} (hU : Upd X w w') {S : Nat} (hS : S ∉ X) {of at_ : Value} {rd : Bool} {slow : Value} {cn : Int} {en : Bool} {vn : Int} {hs : Bool} (h : Sea w S of at_ rd slow cn en vn hs) : Sea w' S of at_ rd slow cn en vn hs := (hU.block S hS).trans h
theorem Pr.keep {X : List Nat} {w w' : World} (hU : Upd X w w') {p : Nat} (hp : p ∉ X) {car cdr : Value} (h : Pr w p car cdr) : Pr w' p car cdr := (hU.block p hp).trans h

theorem ta32_yes (v : Value) (c : Bool) (w : World) : (Instr.typeAssert (.iface 32 v) 20 32 c).run Try.prog w = .ok (if c then .tuple #[v, .bool true] else v) w := by
  cases c <;> kernel_rfl
theorem ta32_no (v : Value) (w : World) : (Instr.typeAssert (.iface 2 v) 20 32 true).run Try.prog w = .ok (.tuple #[.pointer none, .bool false]) w := by kernel_rfl

theorem pair_end (S : Nat) (w : World) (v : Value) (h : w.cell? ⟨S, 1, none⟩ = some (.iface 2 v)) :
    Calls Try.prog 17 #[.pointer (some ⟨S, 1, none⟩)] w fun e w' => e = .returned (.tuple #[.pointer none, .bool false]) ∧ w' = w := by
  have ta := ta32_no
  go_enter Try.func17, Try.ntmps17
  go_wp2
  go_ret2
  exact ⟨rfl, rfl⟩
theorem pair_round (S p : Nat) (w : World) (h : w.cell? ⟨S, 1, none⟩ = some (kp 32 p)) (h2 : w.cell? ⟨S, 2, none⟩ = some (.bool true)) :
    Calls Try.prog 17 #[.pointer (some ⟨S, 1, none⟩)] w fun e w' => e = .returned (.tuple #[.pointer none, .bool false]) ∧ w' = w := by
  have ta := ta32_yes
  unfold kp at h
  go_enter Try.func17, Try.ntmps17
  go_wp2
  go_ret2
  exact ⟨rfl, rfl⟩

set_option maxHeartbeats 800000 in
theorem pair_odd (S p : Nat) (w : World) (of car slow : Value) (ct : Nat) (cx : Value) (cn : Int) (en : Bool) (vn : Int) (hs : Bool) (h : Sea w S of (kp 32 p) false slow cn en vn hs) (hp : Pr w p car (.iface ct cx)) (h0 : 0 ≤ cn) (h1 : cn ≤ 1000000) (hodd : ((cn + 1) % 2 == 0) = false) :
    Calls Try.prog 17 #[.pointer (some ⟨S, 1, none⟩)] w fun e w' => e = .returned (.tuple #[.pointer (some ⟨p, 0, none⟩), .bool true]) ∧ Sea w' S of (.iface ct cx) false slow (cn + 1) en vn hs ∧ Upd [S] w w' := by
  obtain ⟨c0, c1, c2, c3, c4, c5, c6, c7⟩ := h.cells
  obtain ⟨d0, d1⟩ := hp.cells
  have f1 := h.free 1
  have f4 := h.free 4
  have ta := ta32_yes
  unfold kp at c1
  have HS : Hid (Sea w S of (kp 32 p) false slow cn en vn hs) := h
  clear h
  go_enter Try.func17, Try.ntmps17
  go_wp2
  go_ret2
  refine ⟨rfl, ?_, ?_⟩
  · exact (HS.out.set1 _).set4 _
  · exact ((Upd.refl _ _).setCell _ (by simp) _).setCell _ (by simp) _

set_option maxHeartbeats 1600000 in
theorem pair_even (S p q : Nat) (w : World) (of car qcar : Value) (ct : Nat) (cx : Value) (st : Nat) (sx : Value) (cn : Int) (en : Bool) (vn : Int) (hs : Bool) (b : Bool) (h : Sea w S of (kp 32 p) false (kp 32 q) cn en vn hs) (hp : Pr w p car (.iface ct cx)) (hq : Pr w q qcar (.iface st sx)) (hqS : q ≠ S)
    (h0 : 0 ≤ cn) (h1 : cn ≤ 1000000) (hev : ((cn + 1) % 2 == 0) = true) (heq : ∀ w2, Upd [S] w w2 → (binOp .eql 20 (.iface st sx) (.iface ct cx)).run Try.prog w2 = .ok (.bool b) w2) :
    Calls Try.prog 17 #[.pointer (some ⟨S, 1, none⟩)] w fun e w' => e = .returned (.tuple #[.pointer (some ⟨p, 0, none⟩), .bool true]) ∧ Sea w' S of (.iface ct cx) b (.iface st sx) (cn + 1) en vn hs ∧ Upd [S] w w' := by
  obtain ⟨c0, c1, c2, c3, c4, c5, c6, c7⟩ := h.cells
  obtain ⟨d0, d1⟩ := hp.cells
  obtain ⟨e0, e1⟩ := hq.cells
  have f1 := h.free 1
  have f2 := h.free 2
  have f3 := h.free 3
  have f4 := h.free 4
  have ta := ta32_yes
  unfold kp at c1 c3
  have hSq : S ≠ q := fun e => hqS e.symm
  have HS : Hid (Sea w S of (kp 32 p) false (kp 32 q) cn en vn hs) := h
  have HE : Hid (∀ w2, Upd [S] w w2 → (binOp .eql 20 (.iface st sx) (.iface ct cx)).run Try.prog w2 = .ok (.bool b) w2) := heq
  clear h heq hp hq
  go_enter Try.func17, Try.ntmps17
  go_wp2
  have hS1 : Sea (((w.setCell ⟨S, 1, none⟩ (.iface ct cx)).setCell ⟨S, 4, none⟩ (.int .i64 (cn + 1))).setCell ⟨S, 3, none⟩ (.iface st sx)) S of (.iface ct cx) false (.iface st sx) (cn + 1) en vn hs := ((HS.out.set1 _).set4 _).set3 _
  have hU : Upd [S] w (((w.setCell ⟨S, 1, none⟩ (.iface ct cx)).setCell ⟨S, 4, none⟩ (.int .i64 (cn + 1))).setCell ⟨S, 3, none⟩ (.iface st sx)) := (((Upd.refl _ _).setCell _ (by simp) _).setCell _ (by simp) _).setCell _ (by simp) _
  clear c0 c1 c2 c3 c4 c5 c6 c7 d0 d1 e0 e1 f1 f2 f3 f4 ta HS
  generalize ((w.setCell ⟨S, 1, none⟩ (.iface ct cx)).setCell ⟨S, 4, none⟩ (.int .i64 (cn + 1))).setCell ⟨S, 3, none⟩ (.iface st sx) = W at *
  obtain ⟨c0, c1, c2, c3, c4, c5, c6, c7⟩ := hS1.cells
  have f2 := hS1.free 2
  have he := HE.out W.drew hU.drew
  have HS : Hid (Sea W S of (.iface ct cx) false (.iface st sx) (cn + 1) en vn hs) := hS1
  clear hS1 HE
  go_region
  all_goals
    go_wp2
    go_ret2
    refine ⟨rfl, ?_, ?_⟩
    · exact HS.out.set2 b
    · exact (hU.setCell ⟨S, 2, none⟩ (by simp) _).drew
end Go.Proofs.Qxb6604422a

/-
  A finder inside one search, as the laws see it: what a call of ZZnext makes of it.
-/
import Derived.Test.Qxb6604422aNewList
namespace Go.Proofs.Qxb6604422a
open Go.RowKit

/-- The blocks of a finder. -/
structure Bk where
  (F T H O c I S : Nat)
def Bk.all (b : Bk) : List Nat := [b.F, b.T, b.H, b.O, b.I, b.S]

/-- What stays while the search is open. -/
structure Fix (w0 W : World) (b : Bk) (ta : Bool) : Prop where
  fin : Fin W b.F b.T b.H b.O b.c b.I 1
  cap : 1 ≤ b.c
  test : W.cell? ⟨b.T, 0, none⟩ = some (.bool ta)
  opn : W.cell? ⟨b.O, 0, none⟩ = some (.pointer (some ⟨b.S, 0, none⟩))
  apart : b.F ≠ b.T ∧ b.F ≠ b.H ∧ b.F ≠ b.O ∧ b.F ≠ b.I ∧ b.F ≠ b.S ∧ b.T ≠ b.H ∧ b.T ≠ b.O ∧ b.T ≠ b.I ∧ b.T ≠ b.S ∧ b.H ≠ b.O ∧ b.H ≠ b.I ∧ b.H ≠ b.S ∧ b.O ≠ b.I ∧ b.O ≠ b.S ∧ b.I ≠ b.S
  upd : Upd b.all w0 W

theorem Fix.turn {w0 W W' : World} {b : Bk} {ta : Bool} (h : Fix w0 W b ta) (hU : Upd [b.S, b.H] W W') : Fix w0 W' b ta := by
  obtain ⟨h1, h2, h3, h4, h6, h7⟩ := h
  have hF : b.F ∉ [b.S, b.H] := by simp; omega
  have hT : b.T ∉ [b.S, b.H] := by simp; omega
  have hO : b.O ∉ [b.S, b.H] := by simp; omega
  exact ⟨h1.keep hU hF, h2, (hU.cell (p := ⟨b.T, 0, none⟩) hT).trans h3, (hU.cell (p := ⟨b.O, 0, none⟩) hO).trans h4, h6, h7.trans (hU.mono (by intro k hk; simp [Bk.all] at hk ⊢; omega))⟩

/-- The search is at its end: nothing is open or inside; the map of what is found holds the blocks L. -/
structure Shut (w0 W : World) (b : Bk) (L : List Nat) : Prop where
  fin : Fin W b.F b.T b.H b.O b.c b.I 0
  ins : MapIs W b.I []
  held : MapIs W b.H (L.map (kp 32))
  upd : Upd b.all w0 W

/-! ### a vector -/
structure VSt (w0 W : World) (b : Bk) (ta : Bool) (V A n k : Nat) (v : Nat → Int) : Prop where
  firm : Fix w0 W b ta
  ins : MapIs W b.I [kp 40 V]
  held : MapIs W b.H []
  sea : Sea W b.S (kp 40 V) .nilIface false .nilIface 0 false k false
  vec : W.heap[V]? = some (.cells #[.slice (some ⟨A, 0, none⟩) n n] 43 (0, 0))
  row : VRow W A n n v
  farV : V ∉ b.all
  farA : A ∉ b.all

theorem VSt.vcell {w0 W : World} {b : Bk} {ta : Bool} {V A n k : Nat} {v : Nat → Int} (h : VSt w0 W b ta V A n k v) : W.cell? ⟨V, 0, none⟩ = some (.slice (some ⟨A, 0, none⟩) n n) := by
  rw [cell_of_row W V 0 _ 43 (0, 0) h.vec]; rfl

theorem vnext {w0 W : World} {b : Bk} {ta : Bool} {V A n k : Nat} {v : Nat → Int} (h : VSt w0 W b ta V A n k v) (hk : k < n) (hn : n ≤ 65536) :
    Calls Try.prog 7 #[.pointer (some ⟨b.F, 0, none⟩)] W fun e w' => e = .returned (.tuple #[.int .i64 (v k), .bool true, .bool true]) ∧ VSt w0 w' b ta V A n (k + 1) v := by
  have hVS : V ≠ b.S := fun e => h.farV (by simp [Bk.all, e])
  have hAS : A ≠ b.S := fun e => h.farA (by simp [Bk.all, e])
  have hVH : V ≠ b.H := fun e => h.farV (by simp [Bk.all, e])
  have hAH : A ≠ b.H := fun e => h.farA (by simp [Bk.all, e])
  have ha := h.firm.apart
  refine zz_item b.F (v k) _ W (next_item b.F b.T b.H b.O b.c b.I b.S (v k) _ W h.firm.fin h.firm.opn fun m => ?_)
  refine (step_vec b.F b.S V A n n k .nilIface false .nilIface 0 false false (v k) (W.drewN m) h.sea h.vcell (h.row.at k hk) hk hn hVS hAS).mono ?_
  rintro e w1 ⟨rfl, hS, hU⟩
  have hU' : Upd [b.S] W w1 := ((Upd.refl _ _).drews m).trans hU
  obtain ⟨cur, hr, r⟩ := h.row
  exact ⟨rfl, h.firm.turn (hU'.mono (by simp)), hU'.map (by simp; omega) h.ins, hU'.map (by simp; omega) h.held, hS, (hU'.block V (by simp [hVS])).trans h.vec, ⟨cur, (hU'.block A (by simp [hAS])).trans hr, r⟩, h.farV, h.farA⟩

theorem vclose {w0 W : World} {b : Bk} {ta : Bool} {V A n : Nat} {v : Nat → Int} (h : VSt w0 W b ta V A n n v) :
    Calls Try.prog 7 #[.pointer (some ⟨b.F, 0, none⟩)] W fun e w' => e = .returned (.tuple #[.int .i64 0, .bool false, .bool false]) ∧ Shut w0 w' b [] := by
  have ha := h.firm.apart
  refine zz_none b.F _ W ?_
  refine (next_close b.F b.T b.H b.O b.c b.I b.S 40 V ptr40 .nilIface false .nilIface 0 false n W h.firm.fin h.firm.cap h.firm.opn h.sea h.ins ⟨_, _, h.vec⟩ (by omega) (by omega) (by omega) fun m => ?_).mono ?_
  · refine (step_vec_end b.F b.S V A n n .nilIface false .nilIface 0 false false (W.drewN m) h.sea h.vcell).mono ?_
    rintro e w1 ⟨rfl, hU⟩
    exact ⟨rfl, ((Upd.refl _ _).drews m).trans hU⟩
  · rintro e w1 ⟨rfl, hF, hI, hU⟩
    exact ⟨rfl, hF, hI, hU.map (by simp; omega) h.held, h.firm.upd.trans (hU.mono (by intro k hk; simp [Bk.all] at hk ⊢; omega))⟩

/-! ### a list -/
structure LSt (w0 W : World) (b : Bk) (ta : Bool) (N P : Nat) (nd : Nat → Value) (bl : Nat → Nat) (cv : Nat → Int) (j : Nat) (L : List Nat) (rd en hs : Bool) : Prop where
  firm : Fix w0 W b ta
  ins : MapIs W b.I [kp 32 P]
  held : MapIs W b.H (L.map (kp 32))
  sea : Sea W b.S (kp 32 P) (nd j) rd (nd (j / 2)) j en 0 hs
  lst : Lst W N nd bl cv
  far : ∀ i, i < N → bl i ∉ b.all
  head : 0 < N ∧ bl 0 = P
  origin : ∀ q, q ∈ L → ∃ i, i < N ∧ q = bl i

theorem LSt.ne {w0 W : World} {b : Bk} {ta : Bool} {N P : Nat} {nd : Nat → Value} {bl : Nat → Nat} {cv : Nat → Int} {j : Nat} {L : List Nat} {rd en hs : Bool} (h : LSt w0 W b ta N P nd bl cv j L rd en hs) {i : Nat} (hi : i < N) : bl i ≠ b.F ∧ bl i ≠ b.T ∧ bl i ≠ b.H ∧ bl i ≠ b.O ∧ bl i ≠ b.I ∧ bl i ≠ b.S := by
  have := h.far i hi
  simp [Bk.all] at this
  omega
theorem LSt.plain {w0 W : World} {b : Bk} {ta : Bool} {N P : Nat} {nd : Nat → Value} {bl : Nat → Nat} {cv : Nat → Int} {j : Nat} {L : List Nat} {rd en hs : Bool} (h : LSt w0 W b ta N P nd bl cv j L rd en hs) : ∀ q ∈ L, Plain W q ∧ q ≠ b.S ∧ q ≠ b.F ∧ q ≠ b.I := by
  intro q hq
  obtain ⟨i, hi, rfl⟩ := h.origin q hq
  have := h.ne hi
  exact ⟨h.lst.plain hi, by omega, by omega, by omega⟩

/-- What is found behind one step more. -/
def grew (ta : Bool) (L : List Nat) (p : Nat) : List Nat := if ta then add L p else L
theorem mem_add {L : List Nat} {p q : Nat} (h : q ∈ add L p) : q ∈ L ∨ q = p := by
  unfold add at h
  split at h
  · exact .inl h
  · simpa using h

/-- One car further. r: have the cdrs come round? -/
theorem lnext {w0 W : World} {b : Bk} {ta : Bool} {N P : Nat} {nd : Nat → Value} {bl : Nat → Nat} {cv : Nat → Int} {j : Nat} {L : List Nat} {hs : Bool} (h : LSt w0 W b ta N P nd bl cv j L false false hs) (hj : j < N) (hN : N ≤ 1000000) (r : Bool)
    (hr : (j + 1) % 2 = 0 → ∀ w2, Upd [b.S] W w2 → (binOp .eql 20 (nd ((j + 1) / 2)) (nd (j + 1))).run Try.prog w2 = .ok (.bool r) w2) (hr' : (j + 1) % 2 ≠ 0 → r = false) :
    Calls Try.prog 7 #[.pointer (some ⟨b.F, 0, none⟩)] W fun e w' => e = .returned (.tuple #[.int .i64 (cv j), .bool true, .bool true]) ∧ LSt w0 w' b ta N P nd bl cv (j + 1) (grew ta L (bl j)) r false (hs || ta) := by
  have ha := h.firm.apart
  have hne := h.ne hj
  refine zz_item b.F (cv j) _ W (next_item b.F b.T b.H b.O b.c b.I b.S (cv j) _ W h.firm.fin h.firm.opn fun m => ?_)
  have hD : Upd [b.S] W (W.drewN m) := (Upd.refl _ _).drews m
  have f1 : Fin (W.drewN m) b.F b.T b.H b.O b.c b.I 1 := h.firm.fin
  have t1 : (W.drewN m).cell? ⟨b.T, 0, none⟩ = some (.bool ta) := h.firm.test
  have o1 : (W.drewN m).cell? ⟨b.O, 0, none⟩ = some (.pointer (some ⟨b.S, 0, none⟩)) := h.firm.opn
  have l1 : Lst (W.drewN m) N nd bl cv := h.lst.keep hD (fun i hi => by have := h.ne hi; simp; omega)
  have s1 : Sea (W.drewN m) b.S (kp 32 P) (nd j) false (nd (j / 2)) j false 0 hs := h.sea
  have m1 : MapIs (W.drewN m) b.H (L.map (kp 32)) := h.held
  have q1 : ∀ q ∈ L, Plain (W.drewN m) q ∧ q ≠ b.S := fun q hq => ⟨hD.plain (by simp [(h.plain q hq).2.1]) (h.plain q hq).1, (h.plain q hq).2.1⟩
  have n1 : ∀ i, i < N → bl i ≠ b.S := fun i hi => (h.ne hi).2.2.2.2.2
  have r1 : (j + 1) % 2 = 0 → ∀ w2, Upd [b.S] (W.drewN m) w2 → (binOp .eql 20 (nd ((j + 1) / 2)) (nd (j + 1))).run Try.prog w2 = .ok (.bool r) w2 := fun e w2 hU => hr e w2 (hD.trans hU)
  obtain ⟨a1, a2, a3, a4, a5, a6, a7, a8, a9, a10, a11, a12, a13, a14, a15⟩ := ha
  cases ta with
  | false =>
    refine (step_no b.F b.T b.H b.O b.c b.I b.S N j nd bl cv (W.drewN m) P false 0 hs r f1 t1 l1 hj hN n1 s1 r1 hr' a5 a9).mono ?_
    rintro e w1 ⟨rfl, hS, hU⟩
    have hU' : Upd [b.S] W w1 := hD.trans hU
    refine ⟨rfl, h.firm.turn (hU'.mono (by simp)), hU'.map (by simp; omega) h.ins, hU'.map (by simp; omega) h.held, ?_, h.lst.keep hU' (fun i hi => by have := h.ne hi; simp; omega), h.far, h.head, h.origin⟩
    rw [Bool.or_false]; exact hS
  | true =>
    refine (step_yes b.F b.T b.H b.O b.c b.I b.S N j L nd bl cv (W.drewN m) P false 0 hs r f1 o1 t1 l1 hj hN n1 s1 m1 q1 r1 hr' a5 a9 a14 a12 a2 (Ne.symm a10) hne.2.2.1).mono ?_
    rintro e w1 ⟨rfl, hS, hM, hU⟩
    have hU' : Upd [b.S, b.H] W w1 := (hD.mono (by simp)).trans hU
    refine ⟨rfl, h.firm.turn hU', hU'.map (by simp; omega) h.ins, hM, ?_, h.lst.keep hU' (fun i hi => by have := h.ne hi; simp; omega), h.far, h.head, ?_⟩
    · rw [Bool.or_true]; exact hS
    · intro q hq
      rcases mem_add hq with hq | rfl
      · exact h.origin q hq
      · exact ⟨j, hj, rfl⟩

/-- The list's end. -/
theorem ltail {w0 W : World} {b : Bk} {ta : Bool} {N P : Nat} {nd : Nat → Value} {bl : Nat → Nat} {cv : Nat → Int} {j : Nat} {L : List Nat} {hs : Bool} {tl : Int} (h : LSt w0 W b ta N P nd bl cv j L false false hs) (ht : nd j = .iface 2 (.int .i64 tl)) :
    Calls Try.prog 7 #[.pointer (some ⟨b.F, 0, none⟩)] W fun e w' => e = .returned (.tuple #[.int .i64 tl, .bool true, .bool true]) ∧ LSt w0 w' b ta N P nd bl cv j L false true hs := by
  have ha := h.firm.apart
  refine zz_item b.F tl _ W (next_item b.F b.T b.H b.O b.c b.I b.S tl _ W h.firm.fin h.firm.opn fun m => ?_)
  have hS0 := h.sea
  rw [ht] at hS0
  refine (step_tail b.F b.S (W.drewN m) P tl _ _ _ _ hS0).mono ?_
  rintro e w1 ⟨rfl, hS, hU⟩
  have hU' : Upd [b.S] W w1 := ((Upd.refl _ _).drews m).trans hU
  refine ⟨rfl, h.firm.turn (hU'.mono (by simp)), hU'.map (by simp; omega) h.ins, hU'.map (by simp; omega) h.held, ?_, h.lst.keep hU' (fun i hi => by have := h.ne hi; simp; omega), h.far, h.head, h.origin⟩
  rw [ht]; exact hS

/-- Nothing is left: the end has been handed out, or the cdrs have come round. -/
theorem lclose {w0 W : World} {b : Bk} {ta : Bool} {N P : Nat} {nd : Nat → Value} {bl : Nat → Nat} {cv : Nat → Int} {j : Nat} {L : List Nat} {rd en hs : Bool} (h : LSt w0 W b ta N P nd bl cv j L rd en hs)
    (hend : (∃ tl, nd j = .iface 2 (.int .i64 tl) ∧ en = true) ∨ (∃ p, nd j = kp 32 p ∧ rd = true ∧ en = false)) :
    Calls Try.prog 7 #[.pointer (some ⟨b.F, 0, none⟩)] W fun e w' => e = .returned (.tuple #[.int .i64 0, .bool false, .bool false]) ∧ Shut w0 w' b (grew hs L P) := by
  have ha := h.firm.apart
  have hP := h.ne h.head.1
  rw [h.head.2] at hP
  have hPp : Plain W P := by have := h.lst.plain h.head.1; rwa [h.head.2] at this
  have hstep : ∀ m, Calls Try.prog 15 #[.pointer (some ⟨b.F, 0, none⟩), .pointer (some ⟨b.S, 0, none⟩)] (W.drewN m) fun e w' => e = .returned (.tuple #[.nilIface, .bool false]) ∧ Upd [] W w' := by
    intro m
    have hS0 := h.sea
    rcases hend with ⟨tl, ht, rfl⟩ | ⟨p, hp, rfl, rfl⟩
    · rw [ht] at hS0
      refine (step_over b.F b.S (W.drewN m) P tl _ _ _ _ _ hS0).mono ?_
      rintro e w1 ⟨rfl, hU⟩
      exact ⟨rfl, ((Upd.refl _ _).drews m).trans hU⟩
    · rw [hp] at hS0
      refine (step_met b.F b.S (W.drewN m) P p _ _ _ _ hS0).mono ?_
      rintro e w1 ⟨rfl, hU⟩
      exact ⟨rfl, ((Upd.refl _ _).drews m).trans hU⟩
  refine zz_none b.F _ W ?_
  obtain ⟨a1, a2, a3, a4, a5, a6, a7, a8, a9, a10, a11, a12, a13, a14, a15⟩ := ha
  have q1 : ∀ q ∈ L, Plain W q ∧ q ≠ b.F ∧ q ≠ b.I := fun q hq => ⟨(h.plain q hq).1, (h.plain q hq).2.2.1, (h.plain q hq).2.2.2⟩
  cases hs with
  | false =>
    refine (next_close b.F b.T b.H b.O b.c b.I b.S 32 P ptr32 _ _ _ _ _ _ W h.firm.fin h.firm.cap h.firm.opn h.sea h.ins hPp a4 (Ne.symm a15) (Ne.symm a5) hstep).mono ?_
    rintro e w1 ⟨rfl, hF, hI, hU⟩
    exact ⟨rfl, hF, hI, hU.map (by simp; omega) h.held, h.firm.upd.trans (hU.mono (by intro k hk; simp [Bk.all] at hk ⊢; omega))⟩
  | true =>
    refine (next_close_found b.F b.T b.H b.O b.c b.I b.S P L _ _ _ _ _ _ W h.firm.fin h.firm.cap h.firm.opn h.sea h.ins hPp h.held q1 a4 (Ne.symm a15) (Ne.symm a5) a2 a11 hP.1 hP.2.2.2.2.1 hstep).mono ?_
    rintro e w1 ⟨rfl, hF, hI, hM, hU⟩
    exact ⟨rfl, hF, hI, hM, h.firm.upd.trans (hU.mono (by intro k hk; simp [Bk.all] at hk ⊢; omega))⟩
end Go.Proofs.Qxb6604422a

/-
  The walk of (*finder).step.
-/
import Derived.Test.Qxb6604422aFind
namespace Go.Proofs.Qxb6604422a
open Go.RowKit

theorem ta40_yes (v : Value) (w : World) : (Instr.typeAssert (.iface 40 v) 20 40 true).run Try.prog w = .ok (.tuple #[v, .bool true]) w := by kernel_rfl
theorem ta40_no (v : Value) (w : World) : (Instr.typeAssert (.iface 32 v) 20 40 true).run Try.prog w = .ok (.tuple #[.pointer none, .bool false]) w := by kernel_rfl

set_option maxHeartbeats 800000 in
/-- A vector: all its items have been looked at. -/
theorem step_vec_end (F S V A cA n : Nat) (at_ : Value) (rd : Bool) (slow : Value) (cn : Int) (en : Bool) (hs : Bool) (w : World) (hS : Sea w S (kp 40 V) at_ rd slow cn en n hs) (hV : w.cell? ⟨V, 0, none⟩ = some (.slice (some ⟨A, 0, none⟩) n cA)) :
    Calls Try.prog 15 #[.pointer (some ⟨F, 0, none⟩), .pointer (some ⟨S, 0, none⟩)] w fun e w' => e = .returned (.tuple #[.nilIface, .bool false]) ∧ Upd [] w w' := by
  obtain ⟨s0, s1, s2, s3, s4, s5, s6, s7⟩ := hS.cells
  have ta := ta40_yes
  unfold kp at s0
  clear hS
  go_enter Try.func15, Try.ntmps15
  go_wp2
  go_quiet (fail)
  go_wp2
  go_ret2
  exact ⟨rfl, (Upd.refl _ _).drews _⟩

set_option maxHeartbeats 800000 in
/-- A vector: its next item. -/
theorem step_vec (F S V A cA n k : Nat) (at_ : Value) (rd : Bool) (slow : Value) (cn : Int) (en : Bool) (hs : Bool) (v : Int) (w : World) (hS : Sea w S (kp 40 V) at_ rd slow cn en k hs) (hV : w.cell? ⟨V, 0, none⟩ = some (.slice (some ⟨A, 0, none⟩) n cA))
    (hA : w.cell? ⟨A, k, none⟩ = some (.iface 2 (.int .i64 v))) (hk : k < n) (hn : n ≤ 65536) (hVS : V ≠ S) (hAS : A ≠ S) :
    Calls Try.prog 15 #[.pointer (some ⟨F, 0, none⟩), .pointer (some ⟨S, 0, none⟩)] w fun e w' => e = .returned (.tuple #[.iface 2 (.int .i64 v), .bool true]) ∧ Sea w' S (kp 40 V) at_ rd slow cn en ((k + 1 : Nat) : Int) hs ∧ Upd [S] w w' := by
  obtain ⟨s0, s1, s2, s3, s4, s5, s6, s7⟩ := hS.cells
  have f6 := hS.free 6
  have ta := ta40_yes
  have hne : ((k : Int) == (n : Int)) = false := beq_eq_false_iff_ne.2 (by omega)
  have hk0 : (0 : Int) ≤ (k : Int) := by omega
  have hk1 : (k : Int) < (n : Int) := by omega
  have HS : Hid (Sea w S (kp 40 V) at_ rd slow cn en k hs) := hS
  unfold kp at s0
  clear hS
  go_enter Try.func15, Try.ntmps15
  go_wp2
  go_quiet (fail)
  go_wp2
  have hS1 : Sea ((w.drewN nq).setCell ⟨S, 6, none⟩ (.int .i64 ((k : Int) + 1))) S (kp 40 V) at_ rd slow cn en ((k : Int) + 1) hs := (HS.out.drews nq).set6 _
  have hU : Upd [S] w ((w.drewN nq).setCell ⟨S, 6, none⟩ (.int .i64 ((k : Int) + 1))) := ((Upd.refl _ _).drews _).setCell _ (by simp) _
  have hV1 := (hU.cell (p := ⟨V, 0, none⟩) (by simp [hVS])).trans hV
  have hA1 := (hU.cell (p := ⟨A, k, none⟩) (by simp [hAS])).trans hA
  clear s0 s1 s2 s3 s4 s5 s6 s7 f6 HS hV hA
  generalize (w.drewN nq).setCell ⟨S, 6, none⟩ (.int .i64 ((k : Int) + 1)) = W at *
  obtain ⟨s0, s1, s2, s3, s4, s5, s6, s7⟩ := hS1.cells
  have HS : Hid (Sea W S (kp 40 V) at_ rd slow cn en ((k : Int) + 1) hs) := hS1
  clear hS1
  go_quiet (fail)
  go_wp2
  go_ret2
  exact ⟨rfl, HS.out.drews _, hU.drews _⟩

/-- A list: nd j is what stands j cdrs along; where j is less than N it is the pair in block bl j, whose car is the number cv j. -/
structure Lst (w : World) (N : Nat) (nd : Nat → Value) (bl : Nat → Nat) (cv : Nat → Int) : Prop where
  pair : ∀ j, j < N → nd j = kp 32 (bl j) ∧ Pr w (bl j) (.iface 2 (.int .i64 (cv j))) (nd (j + 1))
  form : ∀ j, j ≤ N → ∃ t x, nd j = .iface t x
theorem Lst.keep {X : List Nat} {w w' : World} (hU : Upd X w w') {N : Nat} {nd : Nat → Value} {bl : Nat → Nat} {cv : Nat → Int} (hX : ∀ j, j < N → bl j ∉ X) (h : Lst w N nd bl cv) : Lst w' N nd bl cv :=
  ⟨fun j hj => ⟨(h.pair j hj).1, (h.pair j hj).2.keep hU (hX j hj)⟩, h.form⟩
theorem Lst.plain {w : World} {N : Nat} {nd : Nat → Value} {bl : Nat → Nat} {cv : Nat → Int} (h : Lst w N nd bl cv) {j : Nat} (hj : j < N) : Plain w (bl j) := (h.pair j hj).2.plain

/-- One pair further. b: have the cdrs come round? -/
theorem pair_step (S N j : Nat) (nd : Nat → Value) (bl : Nat → Nat) (cv : Nat → Int) (w : World) (of : Value) (en : Bool) (vn : Int) (hs b : Bool) (hl : Lst w N nd bl cv) (hj : j < N) (hN : N ≤ 1000000) (hnS : ∀ i, i < N → bl i ≠ S) (h : Sea w S of (nd j) false (nd (j / 2)) j en vn hs)
    (hb : (j + 1) % 2 = 0 → ∀ w2, Upd [S] w w2 → (binOp .eql 20 (nd ((j + 1) / 2)) (nd (j + 1))).run Try.prog w2 = .ok (.bool b) w2) (hb' : (j + 1) % 2 ≠ 0 → b = false) :
    Calls Try.prog 17 #[.pointer (some ⟨S, 1, none⟩)] w fun e w' => e = .returned (.tuple #[.pointer (some ⟨bl j, 0, none⟩), .bool true]) ∧ Sea w' S of (nd (j + 1)) b (nd ((j + 1) / 2)) ((j + 1 : Nat) : Int) en vn hs ∧ Upd [S] w w' := by
  obtain ⟨p1, p2⟩ := hl.pair j hj
  obtain ⟨ct, cx, hc⟩ := hl.form (j + 1) hj
  have ej : ((j + 1 : Nat) : Int) = (j : Int) + 1 := by omega
  rw [p1] at h
  rw [hc] at p2
  by_cases he : (j + 1) % 2 = 0
  · obtain ⟨q1, q2⟩ := hl.pair (j / 2) (by omega)
    have e2 : j / 2 + 1 = (j + 1) / 2 := by omega
    obtain ⟨st, sx, hs'⟩ := hl.form ((j + 1) / 2) (by omega)
    rw [e2, hs'] at q2
    rw [q1] at h
    have hb2 := hb he
    rw [hs', hc] at hb2
    rw [hc, hs', ej]
    exact pair_even S (bl j) (bl (j / 2)) w of _ _ ct cx st sx j en vn hs b h p2 q2 (hnS _ (by omega)) (by omega) (by omega) (beq_iff_eq.2 (by omega)) hb2
  · have e2 : (j + 1) / 2 = j / 2 := by omega
    rw [hb' he, hc, e2, ej]
    exact pair_odd S (bl j) w of _ _ ct cx j en vn hs h p2 (by omega) (by omega) (beq_eq_false_iff_ne.2 (by omega))

set_option maxHeartbeats 1600000 in
/-- A list whose test says no: its next car. -/
theorem step_no (F T H O c I S N j : Nat) (nd : Nat → Value) (bl : Nat → Nat) (cv : Nat → Int) (w : World) (p0 : Nat) (en : Bool) (vn : Int) (hs b : Bool) (hF : Fin w F T H O c I 1) (hT : w.cell? ⟨T, 0, none⟩ = some (.bool false)) (hl : Lst w N nd bl cv) (hj : j < N) (hN : N ≤ 1000000) (hnS : ∀ i, i < N → bl i ≠ S) (h : Sea w S (kp 32 p0) (nd j) false (nd (j / 2)) j en vn hs)
    (hb : (j + 1) % 2 = 0 → ∀ w2, Upd [S] w w2 → (binOp .eql 20 (nd ((j + 1) / 2)) (nd (j + 1))).run Try.prog w2 = .ok (.bool b) w2) (hb' : (j + 1) % 2 ≠ 0 → b = false) (hFS : F ≠ S) (hTS : T ≠ S) :
    Calls Try.prog 15 #[.pointer (some ⟨F, 0, none⟩), .pointer (some ⟨S, 0, none⟩)] w fun e w' => e = .returned (.tuple #[.iface 2 (.int .i64 (cv j)), .bool true]) ∧ Sea w' S (kp 32 p0) (nd (j + 1)) b (nd ((j + 1) / 2)) ((j + 1 : Nat) : Int) en vn hs ∧ Upd [S] w w' := by
  have HP : Hid (∀ w1, Upd [S] w w1 → w1.cell? ⟨bl j, 0, none⟩ = some (.iface 2 (.int .i64 (cv j))) ∧ w1.cell? ⟨F, 0, none⟩ = some (.func (.func 13) #[] #[.pointer (some ⟨T, 0, none⟩)]) ∧ w1.cell? ⟨T, 0, none⟩ = some (.bool false)) :=
    fun w1 hU => ⟨((hl.pair j hj).2.keep hU (by simp [hnS j hj])).cells.1, (hF.keep hU (by simp [hFS])).cells.1, (hU.cell (p := ⟨T, 0, none⟩) (by simp [hTS])).trans hT⟩
  have hc := pair_step S N j nd bl cv w (kp 32 p0) en vn hs b hl hj hN hnS h hb hb'
  obtain ⟨s0, s1, s2, s3, s4, s5, s6, s7⟩ := h.cells
  have ta := ta40_no
  unfold kp at s0
  clear h hb hb' hl hnS hF hT
  go_enter Try.func15, Try.ntmps15
  go_wp2_with fail
  refine hc.mono ?_
  rintro e w1 ⟨rfl, hS1, hU1⟩
  obtain ⟨x1, x2, x3⟩ := HP.out w1 hU1
  have HS : Hid (Sea w1 S (kp 32 p0) (nd (j + 1)) b (nd ((j + 1) / 2)) ((j + 1 : Nat) : Int) en vn hs) := hS1
  clear hS1 HP s0 s1 s2 s3 s4 s5 s6 s7
  go_wp2_with fail
  refine (test_any _ T false _ x3).mono ?_
  rintro e w2 ⟨rfl, rfl⟩
  go_wp2_with fail
  go_ret2
  exact ⟨rfl, HS.out, hU1⟩

set_option maxHeartbeats 1600000 in
/-- A list whose test says yes: its next car; the pair is found. -/
theorem step_yes (F T H O c I S N j : Nat) (L : List Nat) (nd : Nat → Value) (bl : Nat → Nat) (cv : Nat → Int) (w : World) (p0 : Nat) (en : Bool) (vn : Int) (hs b : Bool) (hF : Fin w F T H O c I 1) (hO : w.cell? ⟨O, 0, none⟩ = some (.pointer (some ⟨S, 0, none⟩))) (hT : w.cell? ⟨T, 0, none⟩ = some (.bool true)) (hl : Lst w N nd bl cv) (hj : j < N) (hN : N ≤ 1000000) (hnS : ∀ i, i < N → bl i ≠ S) (h : Sea w S (kp 32 p0) (nd j) false (nd (j / 2)) j en vn hs)
    (hM : MapIs w H (L.map (kp 32))) (hL : ∀ q ∈ L, Plain w q ∧ q ≠ S)
    (hb : (j + 1) % 2 = 0 → ∀ w2, Upd [S] w w2 → (binOp .eql 20 (nd ((j + 1) / 2)) (nd (j + 1))).run Try.prog w2 = .ok (.bool b) w2) (hb' : (j + 1) % 2 ≠ 0 → b = false) (hFS : F ≠ S) (hTS : T ≠ S) (hOS : O ≠ S) (hHS : H ≠ S) (hFH : F ≠ H) (hOH : O ≠ H) (hjH : bl j ≠ H) :
    Calls Try.prog 15 #[.pointer (some ⟨F, 0, none⟩), .pointer (some ⟨S, 0, none⟩)] w fun e w' => e = .returned (.tuple #[.iface 2 (.int .i64 (cv j)), .bool true]) ∧ Sea w' S (kp 32 p0) (nd (j + 1)) b (nd ((j + 1) / 2)) ((j + 1 : Nat) : Int) en vn true ∧ MapIs w' H ((add L (bl j)).map (kp 32)) ∧ Upd [S, H] w w' := by
  have hc := pair_step S N j nd bl cv w (kp 32 p0) en vn hs b hl hj hN hnS h hb hb'
  have HC : Hid (∀ w1, Upd [S] w w1 → Sea w1 S (kp 32 p0) (nd (j + 1)) b (nd ((j + 1) / 2)) ((j + 1 : Nat) : Int) en vn hs →
      Calls Try.prog 16 #[.pointer (some ⟨F, 0, none⟩), .iface 32 (.pointer (some ⟨bl j, 0, none⟩))] w1 fun e w' => e = .returned (.tuple #[]) ∧ MapIs w' H ((add L (bl j)).map (kp 32)) ∧ Sea w' S (kp 32 p0) (nd (j + 1)) b (nd ((j + 1) / 2)) ((j + 1 : Nat) : Int) en vn true ∧ Upd [S, H] w1 w') :=
    fun w1 hU hS1 => find_open F T H O c I S (bl j) L _ _ _ _ _ _ _ _ w1 (hF.keep hU (by simp [hFS])) ((hU.cell (p := ⟨O, 0, none⟩) (by simp [hOS])).trans hO) hS1 (hU.map (by simp [hHS]) hM) (hU.plain (by simp [hnS j hj]) (hl.plain hj)) (fun q hq => hU.plain (by simp [(hL q hq).2]) (hL q hq).1) hFH hOH (Ne.symm hHS)
  have HP : Hid (∀ w1, Upd [S] w w1 → w1.cell? ⟨F, 0, none⟩ = some (.func (.func 13) #[] #[.pointer (some ⟨T, 0, none⟩)]) ∧ w1.cell? ⟨T, 0, none⟩ = some (.bool true)) :=
    fun w1 hU => ⟨(hF.keep hU (by simp [hFS])).cells.1, (hU.cell (p := ⟨T, 0, none⟩) (by simp [hTS])).trans hT⟩
  have HQ : Hid (∀ w1, Upd [S, H] w w1 → w1.cell? ⟨bl j, 0, none⟩ = some (.iface 2 (.int .i64 (cv j)))) :=
    fun w1 hU => ((hl.pair j hj).2.keep hU (by simp [hnS j hj, hjH])).cells.1
  obtain ⟨s0, s1, s2, s3, s4, s5, s6, s7⟩ := h.cells
  have ta := ta40_no
  unfold kp at s0
  clear h hb hb' hl hnS hF hT hM hL hO
  go_enter Try.func15, Try.ntmps15
  go_wp2_with fail
  refine hc.mono ?_
  rintro e w1 ⟨rfl, hS1, hU1⟩
  obtain ⟨x2, x3⟩ := HP.out w1 hU1
  have hf := HC.out w1 hU1 hS1
  clear hS1 HP HC s0 s1 s2 s3 s4 s5 s6 s7
  go_wp2_with fail
  refine (test_any _ T true _ x3).mono ?_
  rintro e w2 ⟨rfl, rfl⟩
  go_wp2_with fail
  refine hf.mono ?_
  rintro e w3 ⟨rfl, hM3, hS3, hU3⟩
  have hU : Upd [S, H] w w3 := (hU1.mono (by simp)).trans hU3
  have x1 := HQ.out w3 hU
  have HS : Hid (Sea w3 S (kp 32 p0) (nd (j + 1)) b (nd ((j + 1) / 2)) ((j + 1 : Nat) : Int) en vn true) := hS3
  clear hS3 x2 x3
  go_wp2_with fail
  go_ret2
  exact ⟨rfl, HS.out, hM3, hU⟩

set_option maxHeartbeats 800000 in
/-- A list's end, for the first time. -/
theorem step_tail (F S : Nat) (w : World) (p0 : Nat) (tl : Int) (slow : Value) (cn : Int) (vn : Int) (hs : Bool) (h : Sea w S (kp 32 p0) (.iface 2 (.int .i64 tl)) false slow cn false vn hs) :
    Calls Try.prog 15 #[.pointer (some ⟨F, 0, none⟩), .pointer (some ⟨S, 0, none⟩)] w fun e w' => e = .returned (.tuple #[.iface 2 (.int .i64 tl), .bool true]) ∧ Sea w' S (kp 32 p0) (.iface 2 (.int .i64 tl)) false slow cn true vn hs ∧ Upd [S] w w' := by
  obtain ⟨s0, s1, s2, s3, s4, s5, s6, s7⟩ := h.cells
  have f5 := h.free 5
  have ta := ta40_no
  unfold kp at s0
  have HS : Hid (Sea w S (kp 32 p0) (.iface 2 (.int .i64 tl)) false slow cn false vn hs) := h
  clear h
  go_enter Try.func15, Try.ntmps15
  go_wp2_with fail
  refine (pair_end S _ _ s1).mono ?_
  rintro e w1 ⟨rfl, rfl⟩
  go_wp2_with fail
  go_ret2
  exact ⟨rfl, HS.out.set5 true, (Upd.refl _ _).setCell _ (by simp) _⟩

set_option maxHeartbeats 800000 in
/-- A list's end, once more. -/
theorem step_over (F S : Nat) (w : World) (p0 : Nat) (tl : Int) (rd : Bool) (slow : Value) (cn : Int) (vn : Int) (hs : Bool) (h : Sea w S (kp 32 p0) (.iface 2 (.int .i64 tl)) rd slow cn true vn hs) :
    Calls Try.prog 15 #[.pointer (some ⟨F, 0, none⟩), .pointer (some ⟨S, 0, none⟩)] w fun e w' => e = .returned (.tuple #[.nilIface, .bool false]) ∧ Upd [] w w' := by
  obtain ⟨s0, s1, s2, s3, s4, s5, s6, s7⟩ := h.cells
  have ta := ta40_no
  unfold kp at s0
  clear h
  go_enter Try.func15, Try.ntmps15
  go_wp2_with fail
  refine (pair_end S _ _ s1).mono ?_
  rintro e w1 ⟨rfl, rfl⟩
  go_wp2_with fail
  go_ret2
  exact ⟨rfl, Upd.refl _ _⟩

set_option maxHeartbeats 800000 in
/-- The cdrs have come round. -/
theorem step_met (F S : Nat) (w : World) (p0 p : Nat) (slow : Value) (cn : Int) (vn : Int) (hs : Bool) (h : Sea w S (kp 32 p0) (kp 32 p) true slow cn false vn hs) :
    Calls Try.prog 15 #[.pointer (some ⟨F, 0, none⟩), .pointer (some ⟨S, 0, none⟩)] w fun e w' => e = .returned (.tuple #[.nilIface, .bool false]) ∧ Upd [] w w' := by
  obtain ⟨s0, s1, s2, s3, s4, s5, s6, s7⟩ := h.cells
  have ta := ta40_no
  have HC := pair_round S p w s1 s2
  unfold kp at s0
  clear h
  go_enter Try.func15, Try.ntmps15
  go_wp2_with fail
  refine HC.mono ?_
  rintro e w1 ⟨rfl, rfl⟩
  go_wp2_with fail
  go_ret2
  exact ⟨rfl, Upd.refl _ _⟩
end Go.Proofs.Qxb6604422a

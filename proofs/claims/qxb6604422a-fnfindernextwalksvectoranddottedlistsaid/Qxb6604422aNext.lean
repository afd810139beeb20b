/-
  The walks of (*finder).next and of the small readers.
-/
import Derived.Test.Qxb6604422aStep
namespace Go.Proofs.Qxb6604422a
open Go.RowKit

set_option maxHeartbeats 800000 in
/-- The open search gives an item. -/
theorem next_item (F T H O c I S : Nat) (v : Int) (Q : World → Prop) (w : World) (hF : Fin w F T H O c I 1) (hO : w.cell? ⟨O, 0, none⟩ = some (.pointer (some ⟨S, 0, none⟩)))
    (hstep : ∀ n, Calls Try.prog 15 #[.pointer (some ⟨F, 0, none⟩), .pointer (some ⟨S, 0, none⟩)] (w.drewN n) fun e w' => e = .returned (.tuple #[.iface 2 (.int .i64 v), .bool true]) ∧ Q w') :
    Calls Try.prog 14 #[.pointer (some ⟨F, 0, none⟩)] w fun e w' => e = .returned (.tuple #[.iface 2 (.int .i64 v), .bool true]) ∧ Q w' := by
  obtain ⟨c0, c1, c2, c3⟩ := hF.cells
  have HC : Hid (∀ n, Calls Try.prog 15 #[.pointer (some ⟨F, 0, none⟩), .pointer (some ⟨S, 0, none⟩)] (w.drewN n) fun e w' => e = .returned (.tuple #[.iface 2 (.int .i64 v), .bool true]) ∧ Q w') := hstep
  clear hF hstep
  go_enter Try.func14, Try.ntmps14
  go_wp2
  refine wp_loop_rounds 1 ?_
  rw [rounds_succ]
  go_wp2
  go_quiet (fail)
  go_wp2_with fail
  refine (HC.out _).mono ?_
  rintro e w1 ⟨rfl, hQ⟩
  go_wp2_with fail
  go_ret2
  exact ⟨rfl, hQ⟩

/-- No search is open. -/
theorem next_none (F T H O c I : Nat) (w : World) (hF : Fin w F T H O c I 0) :
    Calls Try.prog 14 #[.pointer (some ⟨F, 0, none⟩)] w fun e w' => e = .returned (.tuple #[.nilIface, .bool false]) ∧ w' = w := by
  obtain ⟨c0, c1, c2, c3⟩ := hF.cells
  go_enter Try.func14, Try.ntmps14
  go_wp2
  refine wp_loop_rounds 1 ?_
  rw [rounds_succ]
  go_wp2
  go_ret2
  exact ⟨rfl, rfl⟩

theorem Fin.set2 {w : World} {F T H O c I ol : Nat} (h : Fin w F T H O c I ol) (k : Nat) : Fin (w.setCell ⟨F, 2, none⟩ (.slice (some ⟨O, 0, none⟩) k c)) F T H O c I k := by
  unfold Fin
  rw [heap_setCell_same w F 2 _ 39 _ h]; rfl

set_option maxHeartbeats 1600000 in
/-- The open search has nothing left, and has found nothing: it ends. -/
theorem next_close (F T H O c I S t p : Nat) (hT : PtrType t) (at_ : Value) (rd : Bool) (slow : Value) (cn : Int) (en : Bool) (vn : Int) (w : World) (hF : Fin w F T H O c I 1) (hc : 1 ≤ c) (hO : w.cell? ⟨O, 0, none⟩ = some (.pointer (some ⟨S, 0, none⟩))) (hS : Sea w S (kp t p) at_ rd slow cn en vn false)
    (hI : MapIs w I [kp t p]) (hp : Plain w p) (hFI : F ≠ I) (hSI : S ≠ I) (hSF : S ≠ F)
    (hstep : ∀ n, Calls Try.prog 15 #[.pointer (some ⟨F, 0, none⟩), .pointer (some ⟨S, 0, none⟩)] (w.drewN n) fun e w' => e = .returned (.tuple #[.nilIface, .bool false]) ∧ Upd [] w w') :
    Calls Try.prog 14 #[.pointer (some ⟨F, 0, none⟩)] w fun e w' => e = .returned (.tuple #[.nilIface, .bool false]) ∧ Fin w' F T H O c I 0 ∧ MapIs w' I [] ∧ Upd [F, I] w w' := by
  obtain ⟨c0, c1, c2, c3⟩ := hF.cells
  have HC : Hid (∀ n, Calls Try.prog 15 #[.pointer (some ⟨F, 0, none⟩), .pointer (some ⟨S, 0, none⟩)] (w.drewN n) fun e w' => e = .returned (.tuple #[.nilIface, .bool false]) ∧ Upd [] w w') := hstep
  have HF : Hid (∀ w1, Upd [I] w w1 → Fin w1 F T H O c I 1 ∧ Sea w1 S (kp t p) at_ rd slow cn en vn false) := fun w1 hU => ⟨hF.keep hU (by simp [hFI]), hS.keep hU (by simp [hSI])⟩
  have HI : Hid (∀ w1, Upd [] w w1 → MapIs w1 I [kp t p] ∧ Plain w1 p) := fun w1 hU => ⟨hU.map (by simp) hI, hU.plain (by simp) hp⟩
  clear hF hstep hS hI hp
  go_enter Try.func14, Try.ntmps14
  go_wp2
  refine wp_loop_rounds 2 ?_
  rw [rounds_succ]
  go_wp2
  go_quiet (fail)
  go_wp2_with fail
  refine (HC.out _).mono ?_
  rintro e w1 ⟨rfl, hU1⟩
  obtain ⟨hI1, hp1⟩ := HI.out w1.drew hU1.drew
  obtain ⟨hF1, hS1⟩ := HF.out w1 (hU1.mono (by simp))
  obtain ⟨a0, a1, a2, a3⟩ := hF1.cells
  obtain ⟨s0, s1, s2, s3, s4, s5, s6, s7⟩ := hS1.cells
  obtain ⟨w2, hrun, hI2, hU2⟩ := run_drop hT Try.underlying35 hI1 hp1
  unfold kp at hrun s0
  clear c0 c1 c2 c3 hF1 hS1
  go_wp2_with fail
  go_region
  have hU3 : Upd [I] w w2 := (hU1.mono (by simp)).drew.trans hU2
  obtain ⟨hF2, hS2⟩ := HF.out w2 hU3
  clear a0 a1 a2 a3 s0 s1 s2 s3 s4 s5 s6 s7 hrun hI1 hp1 hO
  obtain ⟨a0, a1, a2, a3⟩ := hF2.cells
  have f2 := hF2.free 2
  have HF2 : Hid (Fin w2 F T H O c I 1) := hF2
  have HS2 : Hid (Sea w2 S (kp t p) at_ rd slow cn en vn false) := hS2
  clear hF2 hS2
  go_wp2_with fail
  go_region
  have hF3 : Fin (w2.setCell ⟨F, 2, none⟩ (.slice (some ⟨O, 0, none⟩) 0 c)).drew F T H O c I 0 := HF2.out.set2 0
  have hU4 : Upd [F] w2 (w2.setCell ⟨F, 2, none⟩ (.slice (some ⟨O, 0, none⟩) 0 c)).drew := ((Upd.refl _ _).setCell _ (by simp) _).drew
  have hS3 := HS2.out.keep hU4 (by simp [hSF])
  have hI3 := hU4.map (m := I) (by simp [Ne.symm hFI]) hI2
  have hU5 : Upd [F, I] w (w2.setCell ⟨F, 2, none⟩ (.slice (some ⟨O, 0, none⟩) 0 c)).drew := (hU3.mono (by simp)).trans (hU4.mono (by simp))
  clear a0 a1 a2 a3 f2 HF2 HS2 hU4
  generalize (w2.setCell ⟨F, 2, none⟩ (.slice (some ⟨O, 0, none⟩) 0 c)).drew = W at *
  obtain ⟨a0, a1, a2, a3⟩ := hF3.cells
  obtain ⟨s0, s1, s2, s3, s4, s5, s6, s7⟩ := hS3.cells
  have HF3 : Hid (Fin W F T H O c I 0) := hF3
  clear hF3 hS3
  go_wp2_with fail
  rw [rounds_succ]
  go_wp2_with fail
  go_ret2
  exact ⟨rfl, HF3.out, hI3, hU5⟩
set_option maxHeartbeats 1600000 in
/-- The open search has nothing left, and has found something: it ends, and what it is over is found. -/
theorem next_close_found (F T H O c I S p : Nat) (L : List Nat) (at_ : Value) (rd : Bool) (slow : Value) (cn : Int) (en : Bool) (vn : Int) (w : World) (hF : Fin w F T H O c I 1) (_hc : 1 ≤ c) (hO : w.cell? ⟨O, 0, none⟩ = some (.pointer (some ⟨S, 0, none⟩))) (hS : Sea w S (kp 32 p) at_ rd slow cn en vn true)
    (hI : MapIs w I [kp 32 p]) (hp : Plain w p) (hM : MapIs w H (L.map (kp 32))) (hL : ∀ q ∈ L, Plain w q ∧ q ≠ F ∧ q ≠ I) (hFI : F ≠ I) (hSI : S ≠ I) (hSF : S ≠ F) (hFH : F ≠ H) (hHI : H ≠ I) (hpF : p ≠ F) (hpI : p ≠ I)
    (hstep : ∀ n, Calls Try.prog 15 #[.pointer (some ⟨F, 0, none⟩), .pointer (some ⟨S, 0, none⟩)] (w.drewN n) fun e w' => e = .returned (.tuple #[.nilIface, .bool false]) ∧ Upd [] w w') :
    Calls Try.prog 14 #[.pointer (some ⟨F, 0, none⟩)] w fun e w' => e = .returned (.tuple #[.nilIface, .bool false]) ∧ Fin w' F T H O c I 0 ∧ MapIs w' I [] ∧ MapIs w' H ((add L p).map (kp 32)) ∧ Upd [F, I, H] w w' := by
  obtain ⟨c0, c1, c2, c3⟩ := hF.cells
  have HC : Hid (∀ n, Calls Try.prog 15 #[.pointer (some ⟨F, 0, none⟩), .pointer (some ⟨S, 0, none⟩)] (w.drewN n) fun e w' => e = .returned (.tuple #[.nilIface, .bool false]) ∧ Upd [] w w') := hstep
  have HF : Hid (∀ w1, Upd [I] w w1 → Fin w1 F T H O c I 1 ∧ Sea w1 S (kp 32 p) at_ rd slow cn en vn true) := fun w1 hU => ⟨hF.keep hU (by simp [hFI]), hS.keep hU (by simp [hSI])⟩
  have HI : Hid (∀ w1, Upd [] w w1 → MapIs w1 I [kp 32 p] ∧ Plain w1 p) := fun w1 hU => ⟨hU.map (by simp) hI, hU.plain (by simp) hp⟩
  have HM : Hid (∀ w1, Upd [F, I] w w1 → MapIs w1 H (L.map (kp 32)) ∧ Plain w1 p ∧ ∀ q ∈ L, Plain w1 q) := fun w1 hU => ⟨hU.map (by simp [Ne.symm hFH, hHI]) hM, hU.plain (by simp [hpF, hpI]) hp, fun q hq => hU.plain (by simp [(hL q hq).2.1, (hL q hq).2.2]) (hL q hq).1⟩
  clear hF hstep hS hI hp hM hL
  go_enter Try.func14, Try.ntmps14
  go_wp2
  refine wp_loop_rounds 2 ?_
  rw [rounds_succ]
  go_wp2
  go_quiet (fail)
  go_wp2_with fail
  refine (HC.out _).mono ?_
  rintro e w1 ⟨rfl, hU1⟩
  obtain ⟨hI1, hp1⟩ := HI.out w1.drew hU1.drew
  obtain ⟨hF1, hS1⟩ := HF.out w1 (hU1.mono (by simp))
  obtain ⟨a0, a1, a2, a3⟩ := hF1.cells
  obtain ⟨s0, s1, s2, s3, s4, s5, s6, s7⟩ := hS1.cells
  obtain ⟨w2, hrun, hI2, hU2⟩ := run_drop ptr32 Try.underlying35 hI1 hp1
  unfold kp at hrun s0
  clear c0 c1 c2 c3 hF1 hS1
  go_wp2_with fail
  go_region
  have hU3 : Upd [I] w w2 := (hU1.mono (by simp)).drew.trans hU2
  obtain ⟨hF2, hS2⟩ := HF.out w2 hU3
  clear a0 a1 a2 a3 s0 s1 s2 s3 s4 s5 s6 s7 hrun hI1 hp1 hO
  obtain ⟨a0, a1, a2, a3⟩ := hF2.cells
  have f2 := hF2.free 2
  have HF2 : Hid (Fin w2 F T H O c I 1) := hF2
  have HS2 : Hid (Sea w2 S (kp 32 p) at_ rd slow cn en vn true) := hS2
  clear hF2 hS2
  go_wp2_with fail
  go_region
  have hF3 : Fin (w2.setCell ⟨F, 2, none⟩ (.slice (some ⟨O, 0, none⟩) 0 c)).drew F T H O c I 0 := HF2.out.set2 0
  have hU4 : Upd [F] w2 (w2.setCell ⟨F, 2, none⟩ (.slice (some ⟨O, 0, none⟩) 0 c)).drew := ((Upd.refl _ _).setCell _ (by simp) _).drew
  have hS3 := HS2.out.keep hU4 (by simp [hSF])
  have hI3 := hU4.map (m := I) (by simp [Ne.symm hFI]) hI2
  have hU5 : Upd [F, I] w (w2.setCell ⟨F, 2, none⟩ (.slice (some ⟨O, 0, none⟩) 0 c)).drew := (hU3.mono (by simp)).trans (hU4.mono (by simp))
  clear a0 a1 a2 a3 f2 HF2 HS2 hU4
  generalize (w2.setCell ⟨F, 2, none⟩ (.slice (some ⟨O, 0, none⟩) 0 c)).drew = W at *
  obtain ⟨a0, a1, a2, a3⟩ := hF3.cells
  obtain ⟨s0, s1, s2, s3, s4, s5, s6, s7⟩ := hS3.cells
  obtain ⟨m1, m2, m3⟩ := HM.out W hU5
  have hc := find_shut F T H O c I p L W hF3 m1 m2 m3 hFH
  have HF3 : Hid (Fin W F T H O c I 0) := hF3
  unfold kp at s0
  clear hF3 hS3 m1 m2 m3 HM
  go_wp2_with fail
  refine hc.mono ?_
  rintro e w5 ⟨rfl, hM5, hU6⟩
  have hF5 := HF3.out.keep hU6 (by simp [hFH])
  have hI5 := hU6.map (m := I) (by simp [Ne.symm hHI]) hI3
  have hU7 : Upd [F, I, H] w w5 := (hU5.mono (by intro k hk; simp at hk ⊢; omega)).trans (hU6.mono (by intro k hk; simp at hk ⊢; omega))
  clear a0 a1 a2 a3 s0 s1 s2 s3 s4 s5 s6 s7
  obtain ⟨a0, a1, a2, a3⟩ := hF5.cells
  have HF5 : Hid (Fin w5 F T H O c I 0) := hF5
  clear hF5
  go_wp2_with fail
  rw [rounds_succ]
  go_wp2_with fail
  go_ret2
  exact ⟨rfl, HF5.out, hI5, hM5, hU7⟩

theorem ta2_yes (v : Value) (w : World) : (Instr.typeAssert (.iface 2 v) 20 2 true).run Try.prog w = .ok (.tuple #[v, .bool true]) w := by kernel_rfl
theorem ta2_nil (w : World) : (Instr.typeAssert .nilIface 20 2 true).run Try.prog w = .ok (.tuple #[.int .i64 0, .bool false]) w := by kernel_rfl

/-- ZZnext where next gives an item. -/
theorem zz_item (F : Nat) (v : Int) (Q : World → Prop) (w : World) (h : Calls Try.prog 14 #[.pointer (some ⟨F, 0, none⟩)] w fun e w' => e = .returned (.tuple #[.iface 2 (.int .i64 v), .bool true]) ∧ Q w') :
    Calls Try.prog 7 #[.pointer (some ⟨F, 0, none⟩)] w fun e w' => e = .returned (.tuple #[.int .i64 v, .bool true, .bool true]) ∧ Q w' := by
  have ta := ta2_yes
  go_enter Try.func7, Try.ntmps7
  go_wp2_with fail
  refine h.mono ?_
  rintro e w1 ⟨rfl, hQ⟩
  go_wp2_with fail
  go_ret3
  exact ⟨rfl, hQ⟩
/-- ZZnext where next gives none. -/
theorem zz_none (F : Nat) (Q : World → Prop) (w : World) (h : Calls Try.prog 14 #[.pointer (some ⟨F, 0, none⟩)] w fun e w' => e = .returned (.tuple #[.nilIface, .bool false]) ∧ Q w') :
    Calls Try.prog 7 #[.pointer (some ⟨F, 0, none⟩)] w fun e w' => e = .returned (.tuple #[.int .i64 0, .bool false, .bool false]) ∧ Q w' := by
  have ta := ta2_nil
  go_enter Try.func7, Try.ntmps7
  go_wp2_with fail
  refine h.mono ?_
  rintro e w1 ⟨rfl, hQ⟩
  go_wp2_with fail
  go_ret3
  exact ⟨rfl, hQ⟩

theorem openLen_any (F T H O c I ol : Nat) (w : World) (hF : Fin w F T H O c I ol) : Calls Try.prog 8 #[.pointer (some ⟨F, 0, none⟩)] w fun e w' => e = .returned (.int .i64 ol) ∧ w' = w := by
  obtain ⟨a0, a1, a2, a3⟩ := hF.cells
  go_enter Try.func8, Try.ntmps8
  go_wp2
  go_ret
  exact ⟨rfl, rfl⟩
theorem insideLen_any (F T H O c I ol n : Nat) (ks : List Value) (hn : ks.length = n) (w : World) (hF : Fin w F T H O c I ol) (hI : MapIs w I ks) : Calls Try.prog 9 #[.pointer (some ⟨F, 0, none⟩)] w fun e w' => e = .returned (.int .i64 n) ∧ w' = w := by
  obtain ⟨a0, a1, a2, a3⟩ := hF.cells
  have hrun := fun ty => run_count (ty := ty) Try.underlying35 hI
  rw [hn] at hrun
  go_enter Try.func9, Try.ntmps9
  go_wp2
  go_ret
  exact ⟨rfl, rfl⟩
theorem holdingLen_any (F T H O c I ol n : Nat) (ks : List Value) (hn : ks.length = n) (w : World) (hF : Fin w F T H O c I ol) (hH : MapIs w H ks) : Calls Try.prog 11 #[.pointer (some ⟨F, 0, none⟩)] w fun e w' => e = .returned (.int .i64 n) ∧ w' = w := by
  obtain ⟨a0, a1, a2, a3⟩ := hF.cells
  have hrun := fun ty => run_count (ty := ty) Try.underlying36 hH
  rw [hn] at hrun
  go_enter Try.func11, Try.ntmps11
  go_wp2
  go_ret
  exact ⟨rfl, rfl⟩
theorem holds_any (F T H O c I ol p : Nat) (L : List Nat) (b : Bool) (hb : decide (p ∈ L) = b) (w : World) (hF : Fin w F T H O c I ol) (hH : MapIs w H (L.map (kp 32))) (hp : Plain w p) (hL : ∀ q ∈ L, Plain w q) :
    Calls Try.prog 10 #[.pointer (some ⟨F, 0, none⟩), .pointer (some ⟨p, 0, none⟩)] w fun e w' => e = .returned (.bool b) ∧ w' = w := by
  obtain ⟨a0, a1, a2, a3⟩ := hF.cells
  have hrun := run_look ptr32 Try.underlying36 hH hp hL
  rw [hb] at hrun
  unfold kp at hrun
  go_enter Try.func10, Try.ntmps10
  go_wp2
  go_ret
  exact ⟨rfl, rfl⟩
end Go.Proofs.Qxb6604422a

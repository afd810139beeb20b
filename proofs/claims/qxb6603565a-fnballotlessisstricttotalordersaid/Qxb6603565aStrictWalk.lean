import Derived.Test.Qxb6603565aBallot
namespace Go.Proofs.Qxb6603565a
open Go.RowKit

theorem zzBytes13_any (a0 : Int) (a1 : ByteArray) (a2 : Int) (a3 : ByteArray) (a4 : Int) (a5 : ByteArray) (w : World) (h1 : a1.size ≤ maxLen) (h3 : a3.size ≤ maxLen) (h5 : a5.size ≤ maxLen) :
    Calls Try.prog 13 #[.int .u64 a0, .string a1, .int .u64 a2, .string a3, .int .u64 a4, .string a5] w fun e w' => ∃ b : Bool, e = .returned (.bool b) ∧ w' = w := by
  unfold maxLen at h1 h3 h5
  go_enter Try.func13, Try.ntmps13
  go_wp2
  all_goals (go_ret; exact ⟨_, rfl, rfl⟩)

/-- A ballot lies in block p. -/
def Bal (x : World) (p : Nat) (r : Int) (l : ByteArray) : Prop := x.cell? ⟨p, 0, none⟩ = some (.int .u64 r) ∧ x.cell? ⟨p, 1, none⟩ = some (.string l) ∧ p < x.heap.size
theorem Bal.keep {W w1 : World} (hb : Below W.heap.size W w1) {p : Nat} {r : Int} {l : ByteArray} (h : Bal W p r l) : Bal w1 p r l :=
  ⟨(hb.cell (p := ⟨p, 0, none⟩) h.2.2).trans h.1, (hb.cell (p := ⟨p, 1, none⟩) h.2.2).trans h.2.1, Nat.lt_of_lt_of_le h.2.2 hb.size⟩
theorem Bal.alloc {W : World} {p : Nat} {r : Int} {l : ByteArray} (h : Bal W p r l) (o : Obj) : Bal (W.alloc o) p r l :=
  h.keep ((Below.refl _ _).alloc (Nat.le_refl _) o)
theorem Bal.new (W : World) (r : Int) (l : ByteArray) : Bal (W.alloc (.cells #[.int .u64 r, .string l] 26)) W.heap.size r l :=
  ⟨by simp [go_sem], by simp [go_sem], by simp⟩

theorem Bal.of {x y : World} {r : Int} {l : ByteArray} (b : Below (x.alloc (.cells #[.int .u64 r, .string l] 26)).heap.size (x.alloc (.cells #[.int .u64 r, .string l] 26)) y) : Bal y x.heap.size r l := (Bal.new x r l).keep b
theorem Bal.on {x y : World} {o : Obj} (b : Below (x.alloc o).heap.size (x.alloc o) y) {p : Nat} {r : Int} {l : ByteArray} (h : Bal x p r l) : Bal y p r l := (h.alloc o).keep b
theorem less_same (r : Int) (l : ByteArray) : lessB r l r l = false := by simp [lessB, bl_irrefl]

theorem less_tri (ar : Int) (al : ByteArray) (br : Int) (bl : ByteArray) (h : ar ≠ br ∨ al.toList ≠ bl.toList) :
    (lessB ar al br bl = true ∧ lessB br bl ar al = false) ∨ (lessB ar al br bl = false ∧ lessB br bl ar al = true) := by
  unfold lessB
  by_cases e : ar = br
  · subst e
    have hne : al.toList ≠ bl.toList := h.resolve_left (fun k => k rfl)
    simp only [if_true]
    cases k : Op.bytesLess al.toList bl.toList
    · exact .inr ⟨rfl, bl_total _ _ hne k⟩
    · exact .inl ⟨rfl, bl_asymm _ _ k⟩
  · rw [if_neg e, if_neg (fun k => e k.symm)]
    rcases (show ar < br ∨ br < ar by omega) with k | k
    · exact .inl ⟨by simp [k], by simp; omega⟩
    · exact .inr ⟨by simp; omega, by simp [k]⟩

theorem less_trans (ar : Int) (al : ByteArray) (br : Int) (bl : ByteArray) (cr : Int) (cl : ByteArray) (h : lessB ar al br bl = true) (k : lessB br bl cr cl = true) : lessB ar al cr cl = true := by
  unfold lessB at *
  by_cases e : ar = br
  · subst e
    rw [if_pos rfl] at h
    by_cases e2 : ar = cr
    · rw [if_pos e2] at k ⊢; exact bl_trans _ _ _ h k
    · rw [if_neg e2] at k ⊢; exact k
  · rw [if_neg e] at h
    by_cases e2 : br = cr
    · subst e2; rw [if_neg e]; exact h
    · rw [if_neg e2] at k
      simp only [decide_eq_true_eq] at h k
      rw [if_neg (by omega), decide_eq_true_eq]; omega

theorem chain8 {w x1 x2 x3 x4 x5 x6 x7 x8 : World} {o1 o2 o3 : Obj} (b1 : Below w.heap.size w x1) (b2 : Below (x1.alloc o1).heap.size (x1.alloc o1) x2) (b3 : Below (x2.alloc o2).heap.size (x2.alloc o2) x3) (b4 : Below (x3.alloc o3).heap.size (x3.alloc o3) x4)
    (b5 : Below x4.heap.size x4 x5) (b6 : Below x5.heap.size x5 x6) (b7 : Below x6.heap.size x6 x7) (b8 : Below x7.heap.size x7 x8) : Below w.heap.size w x8 := by
  have z1 := b1.size; have z2 := b2.size; have z3 := b3.size; have z4 := b4.size; have z5 := b5.size; have z6 := b6.size; have z7 := b7.size
  simp only [World.size_alloc] at z2 z3 z4
  have y1 := b1.alloc z1 o1
  have y2 := (y1.trans (b2.mono (by simp; omega))).alloc (by omega) o2
  have y3 := (y2.trans (b3.mono (by simp; omega))).alloc (by omega) o3
  have y4 := y3.trans (b4.mono (by simp; omega))
  exact (((y4.trans (b5.mono (by omega))).trans (b6.mono (by omega))).trans (b7.mono (by omega))).trans (b8.mono (by omega))

set_option maxHeartbeats 4000000 in
/-- Behind all tests on lengths. The seven ways: the two ballots are the same; the first comes first; the second comes first. -/
theorem strict_go (a0 : Int) (a1 : ByteArray) (a2 : Int) (a3 : ByteArray) (a4 : Int) (a5 : ByteArray) (w1 : a1.size ≤ maxLen) (w3 : a3.size ≤ maxLen) (w5 : a5.size ≤ maxLen) (w : World)
    (k1 : (a1.size : Int) ≤ 262144) (k3 : (a3.size : Int) ≤ 262144) (k5 : (a5.size : Int) ≤ 262144)
    (h : (a0 = a2 ∧ a1 = a3 ∧ lessB a0 a1 a0 a1 = false) ∨ (lessB a0 a1 a2 a3 = true ∧ lessB a2 a3 a0 a1 = false ∧ (a0 == a2) = false) ∨ (a0 = a2 ∧ lessB a0 a1 a2 a3 = true ∧ lessB a2 a3 a0 a1 = false ∧ (a1.toList == a3.toList) = false)
      ∨ (lessB a0 a1 a2 a3 = false ∧ lessB a2 a3 a0 a1 = true ∧ (a0 == a2) = false) ∨ (a0 = a2 ∧ lessB a0 a1 a2 a3 = false ∧ lessB a2 a3 a0 a1 = true ∧ (a1.toList == a3.toList) = false)) :
    Calls Try.prog 4 #[.int .u64 a0, .string a1, .int .u64 a2, .string a3, .int .u64 a4, .string a5] w fun e w' => e = .returned (.bool true) ∧ Below w.heap.size w w' := by
  have hAA := less_same a0 a1
  have ht : Hid (lessB a0 a1 a2 a3 = true → lessB a2 a3 a4 a5 = true → lessB a0 a1 a4 a5 = true) := fun h k => less_trans _ _ _ _ _ _ h k
  have hBCd := Bool.eq_false_or_eq_true (lessB a2 a3 a4 a5)
  rcases h with ⟨rfl, rfl, hAB⟩ | ⟨hAB, hBA, hs⟩ | ⟨rfl, hAB, hBA, hs⟩ | ⟨hAB, hBA, hs⟩ | ⟨rfl, hAB, hBA, hs⟩
  all_goals
    rcases hBCd with hBC | hBC
    all_goals
      first | have hAC := ht.out hAB hBC | skip
      go_enter Try.func4, Try.ntmps4
      go_wp2_with fail
      refine (zzBytes13_any _ _ _ _ _ _ _ w1 w3 w5).mono ?_
      rintro e w' ⟨b, rfl, rfl⟩
      cases b
      · go_wp2_with fail
        go_ret
        exact ⟨rfl, Below.refl _ _⟩
      go_wp2_with fail
      refine (newBallot_any _ _ _).mono ?_
      rintro e x1 ⟨rfl, b1⟩
      go_wp2_with fail
      refine (newBallot_any _ _ _).mono ?_
      rintro e x2 ⟨rfl, b2⟩
      have e1 := Bal.of b2
      go_wp2_with fail
      refine (newBallot_any _ _ _).mono ?_
      rintro e x3 ⟨rfl, b3⟩
      obtain ⟨p1, p2, p3⟩ := e1.on b3
      obtain ⟨p4, p5, p6⟩ := Bal.of b3
      go_wp2_with fail
      refine (ballotLess_any _ _ _ _ _).mono ?_
      rintro e x4 ⟨rfl, b4⟩
      obtain ⟨q1, q2, q3⟩ := Bal.on b4 ⟨p1, p2, p3⟩
      obtain ⟨q4, q5, q6⟩ := Bal.on b4 ⟨p4, p5, p6⟩
      obtain ⟨q7, q8, q9⟩ := Bal.of b4
      go_wp2_with fail
      refine (ballotLess_any _ _ _ _ _).mono ?_
      rintro e x5 ⟨rfl, b5⟩
      obtain ⟨r1, r2, r3⟩ := Bal.keep b5 ⟨q1, q2, q3⟩
      obtain ⟨r4, r5, r6⟩ := Bal.keep b5 ⟨q4, q5, q6⟩
      obtain ⟨r7, r8, r9⟩ := Bal.keep b5 ⟨q7, q8, q9⟩
      go_wp2_with fail
      refine (ballotLess_any _ _ _ _ _).mono ?_
      rintro e x6 ⟨rfl, b6⟩
      obtain ⟨s1, s2, s3⟩ := Bal.keep b6 ⟨r1, r2, r3⟩
      obtain ⟨s4, s5, s6⟩ := Bal.keep b6 ⟨r4, r5, r6⟩
      obtain ⟨s7, s8, s9⟩ := Bal.keep b6 ⟨r7, r8, r9⟩
      go_wp2_with fail
      refine (ballotLess_any _ _ _ _ _).mono ?_
      rintro e x7 ⟨rfl, b7⟩
      obtain ⟨t1, t2, t3⟩ := Bal.keep b7 ⟨s1, s2, s3⟩
      obtain ⟨t4, t5, t6⟩ := Bal.keep b7 ⟨s4, s5, s6⟩
      obtain ⟨t7, t8, t9⟩ := Bal.keep b7 ⟨s7, s8, s9⟩
      go_wp2_with fail
      refine (ballotLess_any _ _ _ _ _).mono ?_
      rintro e x8 ⟨rfl, b8⟩
      go_wp2_with fail
      go_ret
      refine ⟨rfl, ?_⟩
      exact chain8 b1 b2 b3 b4 b5 b6 b7 b8

theorem strict_walk (a0 : Int) (a1 : ByteArray) (a2 : Int) (a3 : ByteArray) (a4 : Int) (a5 : ByteArray) (w1 : a1.size ≤ maxLen) (w3 : a3.size ≤ maxLen) (w5 : a5.size ≤ maxLen) (w : World) :
    Calls Try.prog 4 #[.int .u64 a0, .string a1, .int .u64 a2, .string a3, .int .u64 a4, .string a5] w fun e w' => e = .returned (.bool true) ∧ Below w.heap.size w w' := by
  have g1 := w1; have g3 := w3; have g5 := w5
  unfold maxLen at g1 g3 g5
  by_cases k1 : (262144 : Int) < a1.size
  · go_enter Try.func4, Try.ntmps4
    go_wp2_with (go_at_call 13; refine (zzBytes13_any _ _ _ _ _ _ _ w1 w3 w5).mono ?_; rintro e w' ⟨b, rfl, rfl⟩; cases b)
    all_goals (go_ret; exact ⟨rfl, Below.refl _ _⟩)
  by_cases k3 : (262144 : Int) < a3.size
  · go_enter Try.func4, Try.ntmps4
    go_wp2_with (go_at_call 13; refine (zzBytes13_any _ _ _ _ _ _ _ w1 w3 w5).mono ?_; rintro e w' ⟨b, rfl, rfl⟩; cases b)
    all_goals (go_ret; exact ⟨rfl, Below.refl _ _⟩)
  by_cases k5 : (262144 : Int) < a5.size
  · go_enter Try.func4, Try.ntmps4
    go_wp2_with (go_at_call 13; refine (zzBytes13_any _ _ _ _ _ _ _ w1 w3 w5).mono ?_; rintro e w' ⟨b, rfl, rfl⟩; cases b)
    all_goals (go_ret; exact ⟨rfl, Below.refl _ _⟩)
  refine strict_go a0 a1 a2 a3 a4 a5 w1 w3 w5 w (by omega) (by omega) (by omega) ?_
  by_cases e0 : a0 = a2
  · subst e0
    by_cases e1 : a1.toList = a3.toList
    · have e2 : a1 = a3 := by rw [ByteArray.toList_eq, ByteArray.toList_eq] at e1; exact ByteArray.ext (Array.toList_inj.1 e1)
      exact .inl ⟨rfl, e2, less_same _ _⟩
    · rcases less_tri a0 a1 a0 a3 (.inr e1) with ⟨h1, h2⟩ | ⟨h1, h2⟩
      · exact .inr (.inr (.inl ⟨rfl, h1, h2, by simp [e1]⟩))
      · exact .inr (.inr (.inr (.inr ⟨rfl, h1, h2, by simp [e1]⟩)))
  · have e0' : a0 ≠ a2 := e0
    rcases less_tri a0 a1 a2 a3 (.inl e0') with ⟨h1, h2⟩ | ⟨h1, h2⟩
    · exact .inr (.inl ⟨h1, h2, by simp [e0']⟩)
    · exact .inr (.inr (.inr (.inl ⟨h1, h2, by simp [e0']⟩)))
end Go.Proofs.Qxb6603565a

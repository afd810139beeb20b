/-
  The walk of FnAppendMarksByWord.
-/
import Derived.Test.Qxb6603712aShimWalk
namespace Go.Proofs.Qxb6603712a
open Go.RowKit

theorem zzBytes8_any (a1 : Option Addr) (n1 cap1 : Nat) (a2 : Option Addr) (n cap2 : Nat) (st : Int) (gap : Bool) (w : World) (h1 : n1 ≤ maxLen) (h2 : n ≤ maxLen) :
    Calls Try.prog 8 #[.slice a1 n1 cap1, .slice a2 n cap2, .int .i64 st, .bool gap] w fun e w' => ∃ b : Bool, e = .returned (.bool b) ∧ w' = w := by
  unfold maxLen at h1 h2
  go_enter Try.func8, Try.ntmps8
  go_wp2
  all_goals (go_ret; exact ⟨_, rfl, rfl⟩)

/-- Where the marks stand in the answer. -/
theorem answer_head {n1 n k : Nat} {p f : Nat → Int} {st : Int} {gap : Bool} (h : k < n1) : (answer n1 p n f st gap)[k]? = some (p k) := by
  rw [answer, List.getElem?_append_left (by rw [lst_len]; exact h)]; exact lst_at p h
theorem answer_mid {n1 n i : Nat} {p f : Nat → Int} {st : Int} {gap : Bool} (h : i < n) (hs : ¬ (i : Int) < st) :
    (answer n1 p n f st gap)[n1 + (outs (fun j => gB (f j)) (fun j => rB (f j)) (fun j => cB (f j)) st i).length]? = some (mk (fun j => gB (f j)) (fun j => rB (f j)) (fun j => cB (f j)) st i) := by
  have := outs_at (fun j => gB (f j)) (fun j => rB (f j)) (fun j => cB (f j)) st h hs (lst n1 p) [fin (fun j => gB (f j)) (fun j => rB (f j)) st gap n]
  rw [lst_len] at this
  exact this
theorem answer_last {n1 n : Nat} {p f : Nat → Int} {st : Int} {gap : Bool} :
    (answer n1 p n f st gap)[n1 + (outs (fun j => gB (f j)) (fun j => rB (f j)) (fun j => cB (f j)) st n).length]? = some (fin (fun j => gB (f j)) (fun j => rB (f j)) st gap n) := by
  rw [answer, List.getElem?_append_right (by rw [lst_len]; omega), lst_len, Nat.add_sub_cancel_left]
  simp
theorem answer_size {n1 n : Nat} {p f : Nat → Int} {st : Int} {gap : Bool} : (answer n1 p n f st gap).length = n1 + (outs (fun j => gB (f j)) (fun j => rB (f j)) (fun j => cB (f j)) st n).length + 1 := by
  simp only [answer, List.length_append, lst_len, List.length_singleton]; omega

theorem mk0 {G R C : Nat → Bool} {st : Int} {i : Nat} (hr : R i = false) (hw : (pend G R st i || G i) = false) (hc : C i = false) : mk G R C st i = 0 := by
  rw [mk, hr, hw, hc]; rfl
theorem mk1 {G R C : Nat → Bool} {st : Int} {i : Nat} (hr : R i = false) (hw : (pend G R st i || G i) = true) : mk G R C st i = 1 := by
  rw [mk, hr, hw]; simp
theorem mk1c {G R C : Nat → Bool} {st : Int} {i : Nat} (hr : R i = false) (hc : C i = true) : mk G R C st i = 1 := by
  rw [mk, hr, hc]; simp
theorem mk2 {G R C : Nat → Bool} {st : Int} {i : Nat} (hr : R i = true) : mk G R C st i = 2 := by
  rw [mk, hr]; simp

/-- A cell of the answer. -/
theorem cell_of {e : TypeId} {w : World} {g : Nat} {R : List Int} (h : ERow e w g R) {j : Nat} {v : Int} (hv : R[j]? = some v) : w.cell? ⟨g, j, none⟩ = some (.int .u8 v) := by
  rw [h.cell j (List.getElem?_eq_some_iff.1 hv).1, hv]; rfl

set_option maxRecDepth 100000 in
set_option maxHeartbeats 6400000 in
theorem law_walk (a1 : Option Addr) (n1 cap1 : Nat) (p : Nat → Int) (a2 : Option Addr) (n cap2 : Nat) (f : Nat → Int) (st : Int) (gap : Bool) (w : World) (ha1 : a1 = none → n1 = 0) (ha2 : a2 = none → n = 0) (h1 : Ints .u8 w a1 n1 p) (h2 : Ints .u8 w a2 n f) (m1 : n1 ≤ maxLen) (m2 : n ≤ maxLen) :
    Calls Try.prog 4 #[.slice a1 n1 cap1, .slice a2 n cap2, .int .i64 st, .bool gap] w fun e w' => e = .returned (.bool true) ∧ Below w.heap.size w w' := by
  have m1' := m1
  have m2' := m2
  unfold maxLen at m1' m2'
  by_cases k1 : (65536 : Int) < n1
  · go_enter Try.func4, Try.ntmps4
    go_wp2_with fail
    refine (zzBytes8_any a1 n1 cap1 a2 n cap2 st gap _ m1 m2).mono ?_
    rintro e w' ⟨b, rfl, rfl⟩
    cases b
    all_goals
      go_wp2_with fail
      go_ret
      exact ⟨rfl, Below.refl _ _⟩
  by_cases k2 : (4096 : Int) < n
  · go_enter Try.func4, Try.ntmps4
    go_wp2_with fail
    refine (zzBytes8_any a1 n1 cap1 a2 n cap2 st gap _ m1 m2).mono ?_
    rintro e w' ⟨b, rfl, rfl⟩
    cases b
    all_goals
      go_wp2_with fail
      go_ret
      exact ⟨rfl, Below.refl _ _⟩
  go_enter Try.func4, Try.ntmps4
  go_wp2_with fail
  refine (zzBytes8_any a1 n1 cap1 a2 n cap2 st gap _ m1 m2).mono ?_
  rintro e w' ⟨b, rfl, rfl⟩
  cases b
  · go_wp2_with fail
    go_ret
    exact ⟨rfl, Below.refl _ _⟩
  go_wp2_with fail
  refine (copyBytes_any a1 n1 cap1 p _ ha1 h1 (by omega)).mono ?_
  rintro e w1 ⟨x1, c1, rfl, r1, _, b1⟩
  go_wp2_with fail
  refine (copyBytes_any a2 n cap2 f _ ha2 (h2.keep b1) (by omega)).mono ?_
  rintro e w2 ⟨x2, c2, rfl, r2, _, b2⟩
  go_wp2_with fail
  obtain ⟨R, hRR⟩ : ∃ R, R = answer n1 p n f st gap := ⟨_, rfl⟩
  refine (shim_any x1 n1 c1 p x2 n c2 f st gap _ (r1.keep b2) r2 (by omega) (by omega)).mono ?_
  rw [← hRR]
  rintro e w3 ⟨g, c3, rfl, hE, b3⟩
  have q1 := (r1.keep b2).keep b3
  have q2 := r2.keep b3
  have hlen : Hid (R.length = n1 + (outs (fun j => gB (f j)) (fun j => rB (f j)) (fun j => cB (f j)) st n).length + 1) := by rw [hRR]; exact answer_size
  have hhead : Hid (∀ k, k < n1 → R[k]? = some (p k)) := fun k hk => by rw [hRR]; exact answer_head hk
  have hmid : Hid (∀ i, i < n → st ≤ (i : Int) → R[n1 + (outs (fun j => gB (f j)) (fun j => rB (f j)) (fun j => cB (f j)) st i).length]? = some (mk (fun j => gB (f j)) (fun j => rB (f j)) (fun j => cB (f j)) st i)) := fun i hi hs => by rw [hRR]; exact answer_mid hi (by omega)
  have hlast : Hid (R[n1 + (outs (fun j => gB (f j)) (fun j => rB (f j)) (fun j => cB (f j)) st n).length]? = some (fin (fun j => gB (f j)) (fun j => rB (f j)) st gap n)) := by rw [hRR]; exact answer_last
  have hRl : R.length ≤ 70000 := by rw [hRR]; have := answer_len n1 p n f st gap; omega
  have hRn : n1 < R.length := by rw [hlen.out]; omega
  have fin3 : Below w'.heap.size w' w3 := (b1.trans (b2.mono b1.size)).trans (b3.mono (Nat.le_trans b1.size b2.size))
  clear hRR b1 b2 b3 r1 r2
  go_wp2_with fail
  go_loopw [10] (fun i wr => ∃ k : Nat, k ≤ n1 ∧ i = .int .i64 k ∧ Below w3.heap.size w3 wr) (fun i _ => n1 - (intOf i).toNat)
  case atStart => exact ⟨0, Nat.zero_le _, rfl, Below.refl _ _⟩
  case round =>
    obtain ⟨k, hk, rfl, hB⟩ := hrel
    by_cases hlt : k < n1
    · have hgd : decide (R.length ≤ k) = false := decide_eq_false (by omega)
      have l0 : (0 : Int) ≤ (k : Int) := by omega
      have l1 : (k : Int) < (R.length : Int) := by omega
      have l2 : (k : Int) < (n1 : Int) := by omega
      have cg := (hB.cell (p := ⟨g, k, none⟩) hE.lt).trans (cell_of hE (hhead.out k hlt))
      rcases q1 with h0 | ⟨b, off, hx, hbl, hc⟩
      · omega
      cases hx
      have cm := (hB.cell (p := ⟨b, off + k, none⟩) hbl).trans (hc k hlt)
      obtain ⟨c, hcc⟩ : ∃ c, c = p k := ⟨_, rfl⟩
      rw [← hcc] at cg cm
      clear hc hcc
      go_wp2_with fail
      go_quiet (fail)
      go_wp2_with fail
      go_roundw
      case rel => exact ⟨k + 1, by omega, by go_num, below_draws hB _⟩
      case measure => simp [intOf]; omega
    · obtain rfl : k = n1 := by omega
      have fin4 : Below w'.heap.size w' wr := fin3.trans (hB.mono fin3.size)
      have q2' := q2.keep hB
      have hE' := hE.keepB hB hE.lt
      clear hE q2 q1 hB fin3 hhead
      rename World => w4
      go_wp2_with fail
      go_loop [10, 11] (fun x i => ∃ (j P : Nat), j ≤ n ∧ x = .int .i64 P ∧ i = .int .i64 j ∧ Hid (P = k + (outs (fun j => gB (f j)) (fun j => rB (f j)) (fun j => cB (f j)) st j).length) ∧ P ≤ k + j) (fun _ i => n - (intOf i).toNat)
      case atStart => exact ⟨0, k, Nat.zero_le _, rfl, rfl, rfl, by omega⟩
      case round =>
        obtain ⟨j, P, hj, rfl, rfl, hP, hPl⟩ := hrel
        by_cases hjn : j < n
        · by_cases hst : (j : Int) < st
          · have HP : Hid (P = k + (outs (fun j => gB (f j)) (fun j => rB (f j)) (fun j => cB (f j)) st (j + 1)).length) := by show P = _; rw [outs, if_pos hst]; exact hP.out
            go_wp2_with fail
            go_round
            case rel => exact ⟨j + 1, P, by omega, rfl, by go_num, HP, by omega⟩
            case measure => simp [intOf]; omega
          have HP : Hid (P + 1 = k + (outs (fun j => gB (f j)) (fun j => rB (f j)) (fun j => cB (f j)) st (j + 1)).length) := by show P + 1 = _; rw [outs, if_neg hst, List.length_append, List.length_singleton, hP.out]; omega
          have hm := hmid.out j hjn (by omega)
          rw [← hP.out] at hm
          have hPR : P < R.length := (List.getElem?_eq_some_iff.1 hm).1
          have hgd : ¬ (R.length : Int) ≤ (P : Int) := by omega
          have cg0 := cell_of hE' hm
          have q3 := q2'
          rcases q2' with h0 | ⟨b, off, hx, hbl, hc⟩
          · omega
          cases hx
          have cf := hc j hjn
          obtain ⟨c, hcc⟩ : ∃ c, c = f j := ⟨_, rfl⟩
          rw [← hcc] at cf
          clear hc hm
          cases hrc : rB c
          · have t0 : (bits BinOp.and IntKind.u8 c 4 != 0) = false := hrc
            cases hkc : cB c
            · have t1 : (bits BinOp.and IntKind.u8 c 1 != 0) = false := hkc
              cases hwt : waits (fun j => gB (f j)) (fun j => rB (f j)) st n j
              · have cg : w4.cell? ⟨g, P, none⟩ = some (.int .u8 0) := by
                  rw [cg0]
                  have : mk (fun j => gB (f j)) (fun j => rB (f j)) (fun j => cB (f j)) st j = 0 := by exact mk0 (by show rB (f j) = false; rw [← hcc]; exact hrc) (by have q := hwt; simp only [waits, decide_eq_true hjn, Bool.true_and] at q; exact q) (by show cB (f j) = false; rw [← hcc]; exact hkc)
                  rw [this]
                clear cg0 hrc hcc hkc
                go_wp2_with fail
                refine (gap_any (some ⟨b, off, none⟩) n c2 st j f _ q3 (by omega) (by omega)).mono ?_
                rw [hwt]
                rintro e w5 ⟨rfl, rfl⟩
                clear hwt
                go_wp2_with fail
                go_round
                case rel => exact ⟨j + 1, P + 1, by omega, by go_num, by go_num, HP, by omega⟩
                case measure => simp [intOf]; omega
              · have cg : w4.cell? ⟨g, P, none⟩ = some (.int .u8 1) := by
                  rw [cg0]
                  have : mk (fun j => gB (f j)) (fun j => rB (f j)) (fun j => cB (f j)) st j = 1 := by exact mk1 (by show rB (f j) = false; rw [← hcc]; exact hrc) (by have q := hwt; simp only [waits, decide_eq_true hjn, Bool.true_and] at q; exact q)
                  rw [this]
                clear cg0 hrc hcc hkc
                go_wp2_with fail
                refine (gap_any (some ⟨b, off, none⟩) n c2 st j f _ q3 (by omega) (by omega)).mono ?_
                rw [hwt]
                rintro e w5 ⟨rfl, rfl⟩
                clear hwt
                go_wp2_with fail
                go_round
                case rel => exact ⟨j + 1, P + 1, by omega, by go_num, by go_num, HP, by omega⟩
                case measure => simp [intOf]; omega
            · have t1 : (bits BinOp.and IntKind.u8 c 1 != 0) = true := hkc
              have cg : w4.cell? ⟨g, P, none⟩ = some (.int .u8 1) := by
                rw [cg0]
                have : mk (fun j => gB (f j)) (fun j => rB (f j)) (fun j => cB (f j)) st j = 1 := by exact mk1c (by show rB (f j) = false; rw [← hcc]; exact hrc) (by show cB (f j) = true; rw [← hcc]; exact hkc)
                rw [this]
              clear cg0 hrc hcc hkc
              go_wp2_with fail
              go_round
              case rel => exact ⟨j + 1, P + 1, by omega, by go_num, by go_num, HP, by omega⟩
              case measure => simp [intOf]; omega
          · have t0 : (bits BinOp.and IntKind.u8 c 4 != 0) = true := hrc
            have cg : w4.cell? ⟨g, P, none⟩ = some (.int .u8 2) := by
              rw [cg0]
              have : mk (fun j => gB (f j)) (fun j => rB (f j)) (fun j => cB (f j)) st j = 2 := by exact mk2 (by show rB (f j) = true; rw [← hcc]; exact hrc)
              rw [this]
            clear cg0 hrc hcc
            go_wp2_with fail
            go_round
            case rel => exact ⟨j + 1, P + 1, by omega, by go_num, by go_num, HP, by omega⟩
            case measure => simp [intOf]; omega
        · obtain rfl : j = n := by omega
          have hl := hlast.out
          rw [← hP.out] at hl
          have hPR : P < R.length := (List.getElem?_eq_some_iff.1 hl).1
          have hq : ((R.length : Int) == (P : Int) + 1) = true := beq_iff_eq.2 (by have := hlen.out; have := hP.out; omega)
          have cg0 := cell_of hE' hl
          cases hg : gap
          · subst hg
            cases hwt : waits (fun j => gB (f j)) (fun j => rB (f j)) st j j
            · have cg : w4.cell? ⟨g, P, none⟩ = some (.int .u8 0) := by
                rw [cg0, fin, show pend (fun j => gB (f j)) (fun j => rB (f j)) st j = false by simpa [waits] using hwt]; rfl
              clear cg0 hl
              go_wp2_with fail
              refine (gap_any x2 j c2 st j f _ q2' (by omega) (Nat.le_refl _)).mono ?_
              rw [hwt]
              rintro e w5 ⟨rfl, rfl⟩
              clear hwt
              go_wp2_with fail
              go_ret
              exact ⟨rfl, fin4⟩
            · have cg : w4.cell? ⟨g, P, none⟩ = some (.int .u8 1) := by
                rw [cg0, fin, show pend (fun j => gB (f j)) (fun j => rB (f j)) st j = true by simpa [waits] using hwt]; rfl
              clear cg0 hl
              go_wp2_with fail
              refine (gap_any x2 j c2 st j f _ q2' (by omega) (Nat.le_refl _)).mono ?_
              rw [hwt]
              rintro e w5 ⟨rfl, rfl⟩
              clear hwt
              go_wp2_with fail
              go_ret
              exact ⟨rfl, fin4⟩
          · subst hg
            have cg : w4.cell? ⟨g, P, none⟩ = some (.int .u8 1) := by rw [cg0, fin]; simp
            clear cg0 hl
            go_wp2_with fail
            go_ret
            exact ⟨rfl, fin4⟩
end Go.Proofs.Qxb6603712a

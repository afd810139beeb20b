/-
  The walk of zzGapPending.
-/
import Derived.Test.Qxb6603712aInts
import Derived.Test.Qxb6603712aMarksPlain
namespace Go.Proofs.Qxb6603712a
open Go.RowKit

/-- The three flags of a word. -/
def gB (c : Int) : Bool := bits .and .u8 c 2 != 0
def rB (c : Int) : Bool := bits .and .u8 c 4 != 0
def cB (c : Int) : Bool := bits .and .u8 c 1 != 0

theorem pend_prog {G R : Nat → Bool} {st : Int} {k : Nat} (h : ¬ (k : Int) < st) (hr : R k = false) : pend G R st (k + 1) = false := by
  rw [pend, if_neg h, hr]; rfl
theorem pend_on {G R : Nat → Bool} {st : Int} {k : Nat} (h : (k : Int) < st ∨ R k = true) : pend G R st (k + 1) = (pend G R st k || G k) := by
  rw [pend]
  rcases h with h | h
  · rw [if_pos h]
  · rw [h]; simp

set_option maxHeartbeats 1600000 in
theorem gap_any (a : Option Addr) (n cap : Nat) (st : Int) (i : Nat) (f : Nat → Int) (w : World) (hr : Ints .u8 w a n f) (hn : n ≤ 4096) (hi : i ≤ n) :
    Calls Try.prog 11 #[.slice a n cap, .int .i64 st, .int .i64 i] w fun e w' => e = .returned (.bool (waits (fun j => gB (f j)) (fun j => rB (f j)) st n i)) ∧ w' = w := by
  obtain ⟨G, hG⟩ : ∃ G : Nat → Bool, G = fun j => gB (f j) := ⟨_, rfl⟩
  obtain ⟨R, hR⟩ : ∃ R : Nat → Bool, R = fun j => rB (f j) := ⟨_, rfl⟩
  rw [← hG, ← hR]
  have HG : Hid (∀ j, G j = gB (f j)) := fun j => by rw [hG]
  have HR : Hid (∀ j, R j = rB (f j)) := fun j => by rw [hR]
  clear hG hR
  obtain ⟨A, hA⟩ : ∃ A : Bool, A = waits G R st n i := ⟨_, rfl⟩
  rw [← hA]
  have HA : Hid (A = waits G R st n i) := hA
  clear hA
  go_enter Try.func11, Try.ntmps11
  go_wp2
  go_loop [7] (fun x => ∃ m : Nat, m ≤ i + 1 ∧ x = .int .i64 ((m : Int) - 1) ∧ Hid (m = i + 1 ∨ pend G R st m = A)) (fun x => (intOf x + 1).toNat)
  case atStart => exact ⟨i + 1, Nat.le_refl _, by go_num, .inl rfl⟩
  case round =>
    obtain ⟨m, hm, rfl, hP⟩ := hrel
    cases m with
    | zero =>
      have hz : A = false := by
        rcases hP.out with h | h
        · omega
        · rw [← h]; rfl
      subst hz
      go_wp2
      go_ret
      exact ⟨rfl, rfl⟩
    | succ k =>
      have e1 : (((k + 1 : Nat) : Int) - 1) = (k : Int) := by omega
      rw [e1]
      clear e1
      by_cases hki : k = i
      · subst hki
        by_cases hkn : k < n
        · rcases hr with h0 | ⟨b, off, hx, hbl, hc⟩
          · omega
          cases hx
          obtain ⟨c, hcc⟩ : ∃ c, c = f k := ⟨_, rfl⟩
          have ck := hc k hkn
          rw [← hcc] at ck
          have hg : G k = gB c := by rw [HG.out k, hcc]
          clear hc hcc
          cases hgk : gB c
          · have t1 : (bits BinOp.and IntKind.u8 c 2 != 0) = false := hgk
            have HN : Hid (pend G R st k = A) := by
              show pend G R st k = A
              rw [HA.out, waits, hg, hgk]; simp
            clear hg hgk
            go_wp2
            go_round
            case rel => exact ⟨k, by omega, rfl, .inr HN.out⟩
            case measure => simp [intOf]
          · have t1 : (bits BinOp.and IntKind.u8 c 2 != 0) = true := hgk
            have hz : A = true := by rw [HA.out, waits, hg, hgk]; simp [hkn]
            clear hg hgk
            subst hz
            go_wp2
            go_ret
            exact ⟨rfl, rfl⟩
        · have HN : Hid (pend G R st k = A) := by
            show pend G R st k = A
            rw [HA.out, waits, decide_eq_false hkn]; simp
          go_wp2
          go_round
          case rel => exact ⟨k, by omega, rfl, .inr HN.out⟩
          case measure => simp [intOf]
      · have HP : Hid (pend G R st (k + 1) = A) := by
          rcases hP.out with h | h
          · omega
          · exact h
        have hlt : (k : Int) < (i : Int) := by omega
        have hkn : (k : Int) < (n : Int) := by omega
        clear hP
        rcases hr with h0 | ⟨b, off, hx, hbl, hc⟩
        · omega
        cases hx
        obtain ⟨c, hcc⟩ : ∃ c, c = f k := ⟨_, rfl⟩
        have ck := hc k (by omega)
        rw [← hcc] at ck
        have hg : G k = gB c := by rw [HG.out k, hcc]
        have hrk : R k = rB c := by rw [HR.out k, hcc]
        clear hc hcc
        by_cases hst : (k : Int) < st
        · have HQ : Hid (A = (pend G R st k || gB c)) := by show A = _; rw [← HP.out, pend_on (.inl hst), hg]
          clear hg hrk
          cases hgk : gB c
          · have t1 : (bits BinOp.and IntKind.u8 c 2 != 0) = false := hgk
            have HN : Hid (pend G R st k = A) := by show pend G R st k = A; rw [HQ.out, hgk]; simp
            clear hgk
            go_wp2
            go_round
            case rel => exact ⟨k, by omega, rfl, .inr HN.out⟩
            case measure => simp [intOf]
          · have t1 : (bits BinOp.and IntKind.u8 c 2 != 0) = true := hgk
            have hz : A = true := by rw [HQ.out, hgk]; simp
            clear hgk HP HQ HA
            subst hz
            go_wp2
            go_ret
            exact ⟨rfl, rfl⟩
        · cases hrc : rB c
          · have t0 : (bits BinOp.and IntKind.u8 c 4 == 0) = true := by
              have : (bits BinOp.and IntKind.u8 c 4 != 0) = false := hrc
              simpa [bne] using this
            have hz : A = false := by rw [← HP.out, pend_prog hst (by rw [hrk, hrc])]
            clear hrc hg hrk HP HA
            subst hz
            go_wp2
            go_ret
            exact ⟨rfl, rfl⟩
          · have t0 : (bits BinOp.and IntKind.u8 c 4 == 0) = false := by
              have : (bits BinOp.and IntKind.u8 c 4 != 0) = true := hrc
              simpa [bne] using this
            have HQ : Hid (A = (pend G R st k || gB c)) := by show A = _; rw [← HP.out, pend_on (.inr (by rw [hrk, hrc])), hg]
            clear hrc hg hrk
            cases hgk : gB c
            · have t1 : (bits BinOp.and IntKind.u8 c 2 != 0) = false := hgk
              have HN : Hid (pend G R st k = A) := by show pend G R st k = A; rw [HQ.out, hgk]; simp
              clear hgk
              go_wp2
              go_round
              case rel => exact ⟨k, by omega, rfl, .inr HN.out⟩
              case measure => simp [intOf]
            · have t1 : (bits BinOp.and IntKind.u8 c 2 != 0) = true := hgk
              have hz : A = true := by rw [HQ.out, hgk]; simp
              clear hgk HP HQ HA
              subst hz
              go_wp2
              go_ret
              exact ⟨rfl, rfl⟩
end Go.Proofs.Qxb6603712a

/-
  The two lists of the laws: one that ends in a number, one whose last cdr leads back. What ZZnext makes of them, as the loops of the laws see it; the plain sums behind it.
-/
import Derived.Test.Qxb6604422aCopy
namespace Go.Proofs.Qxb6604422a
open Go.RowKit

theorem run_eql_self (p : Nat) (w : World) : (binOp .eql 20 (kp 32 p) (kp 32 p)).run Try.prog w = .ok (.bool true) w := by
  obtain ⟨te, i, j, h1, h2, h3, h4, _⟩ := ptr32.ok
  exact run_eql_iface_ptr_same w ⟨p, 0, none⟩ und20 h1 h2 h3 h4
theorem run_eql_else {p q : Nat} {w : World} (hne : p ≠ q) (hp : Plain w p) (hq : Plain w q) : (binOp .eql 20 (kp 32 p) (kp 32 q)).run Try.prog w = .ok (.bool false) w := by
  obtain ⟨te, i, j, h1, h2, h3, h4, h5⟩ := ptr32.ok
  obtain ⟨cp, tp, ep⟩ := hp
  obtain ⟨cq, tq, eq⟩ := hq
  exact run_eql_iface_ptr_other w (a := ⟨p, 0, none⟩) (b := ⟨q, 0, none⟩) und20 h1 h2 h3 h4 h5 (fun e => hne (by cases e; rfl)) ep eq
theorem run_eql_kinds (p : Nat) (x : Value) (w : World) : (binOp .eql 20 (kp 32 p) (.iface 2 x)).run Try.prog w = .ok (.bool false) w := by
  have h : ∀ d : Nat, (Op.equalIn (d + 1) 20 (kp 32 p) (.iface 2 x)).run Try.prog w = .ok false w := fun d => by simp [Op.equalIn, kp, run_underlying und20]
  simp only [binOp]
  simp [Op.equal, Op.maxDepth, h 9999]

/-- What is found when k cars have been handed out. -/
def found (ta : Bool) (n P k : Nat) : List Nat := if ta then (List.range (min k n)).map (P + ·) else []
theorem found_no (n P k : Nat) : found false n P k = [] := rfl
theorem found_zero (ta : Bool) (n P : Nat) : found ta n P 0 = [] := by cases ta <;> simp [found]
theorem found_len (n P k : Nat) : (found true n P k).length = min k n := by simp [found]
theorem found_maplen (n P k : Nat) : ((found true n P k).map (kp 32)).length = min k n := by simp [found]
theorem found_mem {n P k i : Nat} : P + i ∈ found true n P k ↔ i < min k n := by
  simp only [found, if_true, List.mem_map, List.mem_range]
  constructor
  · rintro ⟨a, ha, e⟩
    omega
  · intro h
    exact ⟨i, h, rfl⟩
theorem found_step {ta : Bool} {n P k : Nat} (hk : k < n) : grew ta (found ta n P k) (P + k) = found ta n P (k + 1) := by
  cases ta with
  | false => rfl
  | true =>
    have h : P + k ∉ found true n P k := fun q => by have := found_mem.1 q; omega
    rw [grew, if_pos rfl, add, if_neg h]
    simp only [found, if_true]
    rw [show min k n = k by omega, show min (k + 1) n = k + 1 by omega, List.range_succ, List.map_append]
    rfl
theorem found_same {ta hs : Bool} {n P k i : Nat} (hk : hs = true → i < min k n) (hs' : hs = true → ta = true) : grew hs (found ta n P k) (P + i) = found ta n P k := by
  cases hs with
  | false => rfl
  | true =>
    obtain rfl := hs' rfl
    rw [grew, if_pos rfl, add, if_pos (found_mem.2 (hk rfl))]
theorem found_over {ta : Bool} {n P k : Nat} (hk : n ≤ k) : found ta n P (k + 1) = found ta n P k := by
  unfold found
  rw [show min (k + 1) n = min k n by omega]
theorem found_from {ta : Bool} {n P k q : Nat} (h : q ∈ found ta n P k) : ∃ i, i < n ∧ q = P + i := by
  cases ta with
  | false => simp [found] at h
  | true =>
    simp only [found, if_true, List.mem_map, List.mem_range] at h
    obtain ⟨i, hi, e⟩ := h
    exact ⟨i, by omega, e.symm⟩

/-! ### the list that ends in a number -/
def nd1 (n P : Nat) (tl : Int) (j : Nat) : Value := if j < n then kp 32 (P + j) else .iface 2 (.int .i64 tl)
def S1 (w0 W : World) (b : Bk) (ta : Bool) (n P : Nat) (tl : Int) (v : Nat → Int) (k : Nat) (en : Bool) : Prop := LSt w0 W b ta n P (nd1 n P tl) (fun i => P + i) v k (found ta n P k) false en (ta && decide (0 < k))

theorem S1.start {w w' : World} {n P : Nat} {v : Nat → Int} {tl : Int} {ta : Bool} {F T H O c I S : Nat} (hR : Ready w w' F T H O c I S ta (kp 32 P)) (hS : Sea w' S (kp 32 P) (kp 32 P) false (kp 32 P) 0 false 0 false) (hQ : Prs w' P n v (whole n P (lastV (-1) tl n P))) (hfar : ∀ j, j < n → P + j ∉ [F, T, H, O, I, S]) (hn : 0 < n) :
    S1 w' w' ⟨F, T, H, O, c, I, S⟩ ta n P tl v 0 false := by
  have e0 : nd1 n P tl 0 = kp 32 P := by rw [nd1, if_pos hn]; rfl
  refine ⟨hR.fixed, hR.ins, by rw [found_zero]; exact hR.held, ?_, ⟨fun j hj => ⟨by rw [nd1, if_pos hj], ?_⟩, fun j hj => ?_⟩, hfar, ⟨hn, rfl⟩, ?_⟩
  · rw [Nat.zero_div, e0]; simpa using hS
  · have := hQ j hj
    rw [lastV_out (by omega)] at this
    exact this
  · unfold nd1 kp
    split
    · exact ⟨_, _, rfl⟩
    · exact ⟨_, _, rfl⟩
  · rw [found_zero]; intro q hq; simp at hq

theorem S1.next {w0 W : World} {b : Bk} {ta : Bool} {n P : Nat} {tl : Int} {v : Nat → Int} {k : Nat} (h : S1 w0 W b ta n P tl v k false) (hk : k < n) (hn : n ≤ 65536) :
    Calls Try.prog 7 #[.pointer (some ⟨b.F, 0, none⟩)] W fun e w' => e = .returned (.tuple #[.int .i64 (v k), .bool true, .bool true]) ∧ S1 w0 w' b ta n P tl v (k + 1) false := by
  have h' : LSt w0 W b ta n P (nd1 n P tl) (fun i => P + i) v k (found ta n P k) false false (ta && decide (0 < k)) := h
  refine (lnext h' hk (by omega) false (fun he w2 hU => ?_) (fun _ => rfl)).mono ?_
  · have e1 : nd1 n P tl ((k + 1) / 2) = kp 32 (P + (k + 1) / 2) := by rw [nd1, if_pos (by omega)]
    rw [e1]
    by_cases hl : k + 1 < n
    · rw [nd1, if_pos hl]
      refine run_eql_else (by omega) (hU.plain (by have := h'.ne (i := (k + 1) / 2) (by omega); simp; omega) (h'.lst.plain (j := (k + 1) / 2) (by omega))) (hU.plain (by have := h'.ne (i := k + 1) hl; simp; omega) (h'.lst.plain (j := k + 1) hl))
    · rw [nd1, if_neg hl]
      exact run_eql_kinds _ _ _
  · rintro e w' ⟨rfl, hst⟩
    refine ⟨rfl, ?_⟩
    rw [found_step hk] at hst
    have e2 : ((ta && decide (0 < k)) || ta) = (ta && decide (0 < k + 1)) := by cases ta <;> simp
    rw [e2] at hst
    exact hst

theorem S1.tail {w0 W : World} {b : Bk} {ta : Bool} {n P : Nat} {tl : Int} {v : Nat → Int} (h : S1 w0 W b ta n P tl v n false) :
    Calls Try.prog 7 #[.pointer (some ⟨b.F, 0, none⟩)] W fun e w' => e = .returned (.tuple #[.int .i64 tl, .bool true, .bool true]) ∧ S1 w0 w' b ta n P tl v n true :=
  ltail h (by rw [nd1, if_neg (Nat.lt_irrefl _)])

theorem S1.close {w0 W : World} {b : Bk} {ta : Bool} {n P : Nat} {tl : Int} {v : Nat → Int} (h : S1 w0 W b ta n P tl v n true) (hn : 0 < n) :
    Calls Try.prog 7 #[.pointer (some ⟨b.F, 0, none⟩)] W fun e w' => e = .returned (.tuple #[.int .i64 0, .bool false, .bool false]) ∧ Shut w0 w' b (found ta n P n) := by
  have h' : LSt w0 W b ta n P (nd1 n P tl) (fun i => P + i) v n (found ta n P n) false true (ta && decide (0 < n)) := h
  refine (lclose h' (.inl ⟨tl, by rw [nd1, if_neg (Nat.lt_irrefl _)], rfl⟩)).mono ?_
  rintro e w' ⟨rfl, hsh⟩
  have e1 := found_same (ta := ta) (hs := ta && decide (0 < n)) (n := n) (P := P) (k := n) (i := 0) (fun _ => by omega) (by intro q; simp at q; exact q.1)
  rw [Nat.add_zero] at e1
  rw [e1] at hsh
  exact ⟨rfl, hsh⟩

/-! ### the list that leads back to its pair mu -/
def pos (n mu j : Nat) : Nat := if j < n then j else mu + (j - mu) % (n - mu)
theorem pos_lt {n mu j : Nat} (h : mu < n) : pos n mu j < n := by
  unfold pos
  split
  · assumption
  · have := Nat.mod_lt (j - mu) (show 0 < n - mu by omega)
    omega
theorem pos_in {n mu j : Nat} (h : j < n) : pos n mu j = j := by rw [pos, if_pos h]
theorem pos_round {n mu j : Nat} (hm : mu < n) (h : mu ≤ j) : pos n mu j = mu + (j - mu) % (n - mu) := by
  unfold pos
  split
  · rw [Nat.mod_eq_of_lt (by omega)]; omega
  · rfl
theorem pos_succ {n mu j : Nat} (hm : mu < n) : pos n mu (j + 1) = if pos n mu j + 1 < n then pos n mu j + 1 else mu := by
  by_cases hj : j + 1 < n
  · rw [pos_in hj, pos_in (show j < n by omega), if_pos hj]
  · have h1 := pos_round hm (show mu ≤ j by omega)
    have h2 := pos_round hm (show mu ≤ j + 1 by omega)
    rw [show j + 1 - mu = (j - mu) + 1 by omega] at h2
    have hl := Nat.mod_lt (j - mu) (show 0 < n - mu by omega)
    rw [Nat.add_mod] at h2
    by_cases h1n : n - mu = 1
    · rw [h1n] at h1 h2
      rw [if_neg (by omega), h2]
      omega
    · rw [Nat.mod_eq_of_lt (show 1 < n - mu by omega)] at h2
      split
      · rw [Nat.mod_eq_of_lt (by omega)] at h2
        omega
      · rw [show (j - mu) % (n - mu) + 1 = n - mu by omega, Nat.mod_self] at h2
        omega
/-- Where the slow and the fast meet. -/
theorem pos_meet {n mu a : Nat} (hm : mu < n) (ha : 0 < a) : pos n mu a = pos n mu (2 * a) ↔ mu ≤ a ∧ (n - mu) ∣ a := by
  by_cases h : mu ≤ a
  · rw [pos_round hm h, pos_round hm (show mu ≤ 2 * a by omega)]
    have e : 2 * a - mu = (a - mu) + a := by omega
    rw [e]
    constructor
    · intro q
      refine ⟨h, ?_⟩
      have q' : (a - mu) % (n - mu) = ((a - mu) + a) % (n - mu) := by omega
      have := Nat.sub_mod_eq_zero_of_mod_eq q'.symm
      rw [Nat.add_sub_cancel_left] at this
      exact Nat.dvd_of_mod_eq_zero this
    · rintro ⟨_, c, hc⟩
      have : ((a - mu) + a) % (n - mu) = (a - mu) % (n - mu) := by
        rw [hc, Nat.add_mul_mod_self_left]
      omega
  · constructor
    · intro q
      exfalso
      rw [pos_in (show a < n by omega)] at q
      by_cases h2 : 2 * a < n
      · rw [pos_in h2] at q; omega
      · rw [pos_round hm (by omega)] at q; omega
    · rintro ⟨q, _⟩
      exact absurd q h

/-- The bound of the law. -/
def meet (n mu : Nat) : Nat := (((if mu < 1 then 1 else mu) + (n - mu) - 1) / (n - mu)) * (n - mu)
theorem meet_facts {n mu : Nat} (hm : mu < n) : mu ≤ meet n mu ∧ 0 < meet n mu ∧ (n - mu) ∣ meet n mu ∧ n ≤ 2 * meet n mu ∧ meet n mu ≤ n ∧ ∀ a, 0 < a → a < meet n mu → ¬ (mu ≤ a ∧ (n - mu) ∣ a) := by
  obtain ⟨lo, hlo⟩ : ∃ lo, lo = (if mu < 1 then 1 else mu) := ⟨_, rfl⟩
  obtain ⟨lam, hlam⟩ : ∃ lam, lam = n - mu := ⟨_, rfl⟩
  have hlo1 : 1 ≤ lo ∧ mu ≤ lo ∧ (lo = 1 ∧ mu = 0 ∨ lo = mu) := by rw [hlo]; split <;> omega
  have hm' : meet n mu = ((lo + lam - 1) / lam) * lam := by rw [meet, ← hlo, ← hlam]
  have hl0 : 0 < lam := by omega
  rw [hm', ← hlam]
  have hd := Nat.div_add_mod (lo + lam - 1) lam
  have hr := Nat.mod_lt (lo + lam - 1) hl0
  rw [Nat.mul_comm] at hd
  have hdv : lam ∣ ((lo + lam - 1) / lam) * lam := Nat.dvd_mul_left _ _
  have hge : lo ≤ ((lo + lam - 1) / lam) * lam := by omega
  have hll : lam ≤ ((lo + lam - 1) / lam) * lam := Nat.le_of_dvd (by omega) hdv
  refine ⟨by omega, by omega, hdv, by omega, by omega, ?_⟩
  rintro a ha hlt ⟨h1, c, hc⟩
  have hle : (lo + lam - 1) / lam < c + 1 := by
    rw [Nat.div_lt_iff_lt_mul hl0, Nat.add_mul, Nat.mul_comm c lam]
    omega
  have : (lo + lam - 1) / lam * lam ≤ c * lam := Nat.mul_le_mul_right _ (by omega)
  rw [Nat.mul_comm c lam] at this
  omega

def S2 (w0 W : World) (b : Bk) (ta : Bool) (n mu P : Nat) (v : Nat → Int) (k : Nat) (rd : Bool) : Prop :=
  LSt w0 W b ta (2 * meet n mu) P (fun j => kp 32 (P + pos n mu j)) (fun j => P + pos n mu j) (fun j => v (pos n mu j)) k (found ta n P k) rd false (ta && decide (0 < k))

theorem S2.start {w w' : World} {n mu P : Nat} {v : Nat → Int} {tl : Int} {ta : Bool} {F T H O c I S : Nat} (hR : Ready w w' F T H O c I S ta (kp 32 P)) (hS : Sea w' S (kp 32 P) (kp 32 P) false (kp 32 P) 0 false 0 false) (hQ : Prs w' P n v (whole n P (lastV (mu : Int) tl n P))) (hfar : ∀ j, j < n → P + j ∉ [F, T, H, O, I, S]) (hm : mu < n) :
    S2 w' w' ⟨F, T, H, O, c, I, S⟩ ta n mu P v 0 false := by
  have hf := meet_facts hm
  have e0 : pos n mu 0 = 0 := pos_in (by omega)
  refine ⟨hR.fixed, hR.ins, by rw [found_zero]; exact hR.held, ?_, ⟨fun j hj => ⟨rfl, ?_⟩, fun j hj => ⟨_, _, rfl⟩⟩, fun i _ => hfar _ (pos_lt hm), ⟨by omega, by rw [e0]; rfl⟩, ?_⟩
  · rw [Nat.zero_div, e0]; simpa using hS
  · have := hQ (pos n mu j) (pos_lt hm)
    rw [lastV_in hm, whole] at this
    rw [pos_succ hm]
    split at this
    · rw [if_pos (by assumption)]; exact this
    · rw [if_neg (by assumption)]; exact this
  · rw [found_zero]; intro q hq; simp at hq

theorem S2.next {w0 W : World} {b : Bk} {ta : Bool} {n mu P : Nat} {v : Nat → Int} {k : Nat} (h : S2 w0 W b ta n mu P v k false) (hk : k < 2 * meet n mu) (hm : mu < n) (hn : n ≤ 65536) :
    Calls Try.prog 7 #[.pointer (some ⟨b.F, 0, none⟩)] W fun e w' => e = .returned (.tuple #[.int .i64 (v (pos n mu k)), .bool true, .bool true]) ∧ S2 w0 w' b ta n mu P v (k + 1) (decide (k + 1 = 2 * meet n mu)) := by
  have h' : LSt w0 W b ta (2 * meet n mu) P (fun j => kp 32 (P + pos n mu j)) (fun j => P + pos n mu j) (fun j => v (pos n mu j)) k (found ta n P k) false false (ta && decide (0 < k)) := h
  obtain ⟨f1, f2, f3, f4, f5, f6⟩ := meet_facts hm
  have hpl : ∀ i, i < n → Plain W (P + i) ∧ P + i ≠ b.S := by
    intro i hi
    have a1 := h'.lst.plain (j := i) (by omega)
    have a2 := (h'.ne (i := i) (by omega)).2.2.2.2.2
    rw [pos_in hi] at a1 a2
    exact ⟨a1, a2⟩
  refine (lnext h' hk (by omega) (decide (k + 1 = 2 * meet n mu)) (fun he w2 hU => ?_) (fun ho => by rw [decide_eq_false]; omega)).mono ?_
  · obtain ⟨a, ha⟩ : ∃ a, k + 1 = 2 * a := ⟨(k + 1) / 2, by omega⟩
    have e1 : (k + 1) / 2 = a := by omega
    show (binOp .eql 20 (kp 32 (P + pos n mu ((k + 1) / 2))) (kp 32 (P + pos n mu (k + 1)))).run Try.prog w2 = _
    rw [e1, ha]
    have hmt := pos_meet (a := a) hm (by omega)
    by_cases hq : a = meet n mu
    · rw [decide_eq_true (by omega), hmt.2 ⟨by omega, by rw [hq]; exact f3⟩]
      exact run_eql_self _ _
    · rw [decide_eq_false (by omega)]
      have hne : pos n mu a ≠ pos n mu (2 * a) := fun q => f6 a (by omega) (by omega) (hmt.1 q)
      have p1 := hpl _ (pos_lt (j := a) hm)
      have p2 := hpl _ (pos_lt (j := 2 * a) hm)
      exact run_eql_else (by omega) (hU.plain (by simp [p1.2]) p1.1) (hU.plain (by simp [p2.2]) p2.1)
  · rintro e w' ⟨rfl, hst⟩
    refine ⟨rfl, ?_⟩
    have eg : grew ta (found ta n P k) (P + pos n mu k) = found ta n P (k + 1) := by
      by_cases hk' : k < n
      · rw [pos_in hk', found_step hk']
      · rw [found_over (by omega)]
        exact found_same (fun _ => by have := pos_lt (j := k) hm; omega) (fun q => q)
    have e2 : ((ta && decide (0 < k)) || ta) = (ta && decide (0 < k + 1)) := by cases ta <;> simp
    have hst' : LSt w0 w' b ta (2 * meet n mu) P (fun j => kp 32 (P + pos n mu j)) (fun j => P + pos n mu j) (fun j => v (pos n mu j)) (k + 1) (grew ta (found ta n P k) (P + pos n mu k)) (decide (k + 1 = 2 * meet n mu)) false ((ta && decide (0 < k)) || ta) := hst
    rw [eg, e2] at hst'
    exact hst'

theorem S2.close {w0 W : World} {b : Bk} {ta : Bool} {n mu P : Nat} {v : Nat → Int} (h : S2 w0 W b ta n mu P v (2 * meet n mu) true) (hm : mu < n) :
    Calls Try.prog 7 #[.pointer (some ⟨b.F, 0, none⟩)] W fun e w' => e = .returned (.tuple #[.int .i64 0, .bool false, .bool false]) ∧ Shut w0 w' b (found ta n P (2 * meet n mu)) := by
  obtain ⟨f1, f2, f3, f4, f5, f6⟩ := meet_facts hm
  have h' : LSt w0 W b ta (2 * meet n mu) P (fun j => kp 32 (P + pos n mu j)) (fun j => P + pos n mu j) (fun j => v (pos n mu j)) (2 * meet n mu) (found ta n P (2 * meet n mu)) true false (ta && decide (0 < 2 * meet n mu)) := h
  refine (lclose h' (.inr ⟨_, rfl, rfl, rfl⟩)).mono ?_
  rintro e w' ⟨rfl, hsh⟩
  have e1 := found_same (ta := ta) (hs := ta && decide (0 < 2 * meet n mu)) (n := n) (P := P) (k := 2 * meet n mu) (i := 0) (fun _ => by omega) (by intro q; simp at q; exact q.1)
  rw [Nat.add_zero] at e1
  rw [e1] at hsh
  exact ⟨rfl, hsh⟩
end Go.Proofs.Qxb6604422a

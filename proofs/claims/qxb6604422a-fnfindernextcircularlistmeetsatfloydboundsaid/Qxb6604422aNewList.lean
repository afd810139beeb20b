/-
  The walk of ZZnewFinder over a list.
-/
import Derived.Test.Qxb6604422aNewVec
namespace Go.Proofs.Qxb6604422a
open Go.RowKit

/-- Block A is a row of n pointers of which the first k point to the blocks P, P + 1, .. -/
def PRow (w : World) (A n k P : Nat) : Prop := ∃ cur, w.heap[A]? = some (.cells cur 32 (0, 0)) ∧ cur.size = n ∧ ∀ j, j < k → cur[j]? = some (.pointer (some ⟨P + j, 0, none⟩))
theorem PRow.cell {w : World} {A n k P : Nat} (h : PRow w A n k P) (j : Nat) (hj : j < n) : ∃ u, w.cell? ⟨A, j, none⟩ = some u := by
  obtain ⟨cur, h, hn, _⟩ := h
  rw [cell_of_row w A j cur 32 (0, 0) h]
  exact ⟨cur[j], by simp [hn, hj]⟩
theorem PRow.at {w : World} {A n k P : Nat} (h : PRow w A n k P) (j : Nat) (hj : j < k) : w.cell? ⟨A, j, none⟩ = some (.pointer (some ⟨P + j, 0, none⟩)) := by
  obtain ⟨cur, h, hn, hv⟩ := h
  rw [cell_of_row w A j cur 32 (0, 0) h, hv j hj]
theorem PRow.free {w : World} {A n k P : Nat} (h : PRow w A n k P) (j : Nat) : w.frozen? ⟨A, j, none⟩ = false := by
  obtain ⟨cur, h, _⟩ := h
  exact frozen_of_row w A j cur 32 h
theorem PRow.set {w : World} {A n k P : Nat} (h : PRow w A n k P) (hk : k < n) : PRow (w.setCell ⟨A, k, none⟩ (.pointer (some ⟨P + k, 0, none⟩))) A n (k + 1) P := by
  obtain ⟨cur, h, hn, hv⟩ := h
  refine ⟨cur.setIfInBounds k (.pointer (some ⟨P + k, 0, none⟩)), heap_setCell_same w A k cur 32 _ h, by simpa using hn, fun j hj => ?_⟩
  rw [Array.getElem?_setIfInBounds]
  by_cases e : k = j
  · subst e; simp [hn, hk]
  · rw [if_neg e]; exact hv j (by omega)
theorem PRow.keep {w w' : World} {A n k P : Nat} (hb : w'.heap[A]? = w.heap[A]?) (h : PRow w A n k P) : PRow w' A n k P := by
  obtain ⟨cur, h, r⟩ := h
  exact ⟨cur, hb.trans h, r⟩
theorem PRow.lt {w : World} {A n k P : Nat} (h : PRow w A n k P) : A < w.heap.size := by
  obtain ⟨cur, h, _⟩ := h
  exact (Array.getElem?_eq_some_iff.1 h).1
theorem PRow.of {w1 : World} {n P : Nat} {base g : Nat} {xs : List Value} (hown : w1.ownsRow base 32 1 (.slice (some ⟨g, 0, none⟩) n n) n xs) : PRow w1 g n 0 P := by
  rcases hown.2 with ⟨h', _⟩ | ⟨g', cap', cur, h', _, hg, _, _, hs, ht⟩
  · simp at h'
  · simp only [Value.slice.injEq, Option.some.injEq, Addr.mk.injEq, and_true, true_and] at h'
    obtain ⟨rfl, rfl⟩ := h'
    exact ⟨cur, hg, by simpa using hs, by omega⟩

theorem info32 : (Try.prog.info? 32).map (fun i => (i.zero, i.size, i.bytes)) = some (some (.pointer none), 1, 8) := by kernel_rfl

/-- The first k pairs, their cdrs as lk says. -/
def Prs (w : World) (P k : Nat) (v : Nat → Int) (lk : Nat → Value) : Prop := ∀ j, j < k → Pr w (P + j) (.iface 2 (.int .i64 (v j))) (lk j)

theorem Prs.keepB {w w' : World} {B P k : Nat} {v : Nat → Int} {lk : Nat → Value} (hb : Below B w w') (hB : P + k ≤ B) (h : Prs w P k v lk) : Prs w' P k v lk := fun j hj => (hb.block _ (by omega)).trans (h j hj)

/-- One pair more is made. -/
theorem list_round {w wr : World} {ta : Bool} {A n k P : Nat} {v : Nat → Int} (hR : PRow wr A n k P) (hQ : Prs wr P k v (fun _ => .nilIface)) (hsz : wr.heap.size = P + k) (hB : Base w wr ta) (hk : k < n) (hA : w.heap.size + 4 ≤ A) (hAP : A < P) :
    PRow ((wr.setCell ⟨A, k, none⟩ (.pointer (some ⟨wr.heap.size, 0, none⟩))).alloc (.cells #[.iface 2 (.int .i64 (v k)), .nilIface] 50)) A n (k + 1) P ∧
    Prs ((wr.setCell ⟨A, k, none⟩ (.pointer (some ⟨wr.heap.size, 0, none⟩))).alloc (.cells #[.iface 2 (.int .i64 (v k)), .nilIface] 50)) P (k + 1) v (fun _ => .nilIface) ∧
    ((wr.setCell ⟨A, k, none⟩ (.pointer (some ⟨wr.heap.size, 0, none⟩))).alloc (.cells #[.iface 2 (.int .i64 (v k)), .nilIface] 50)).heap.size = P + (k + 1) ∧
    Base w ((wr.setCell ⟨A, k, none⟩ (.pointer (some ⟨wr.heap.size, 0, none⟩))).alloc (.cells #[.iface 2 (.int .i64 (v k)), .nilIface] 50)) ta := by
  have hU : Upd [A] wr (wr.setCell ⟨A, k, none⟩ (.pointer (some ⟨wr.heap.size, 0, none⟩))) := (Upd.refl _ _).setCell _ (by simp) _
  have hR1 : PRow (wr.setCell ⟨A, k, none⟩ (.pointer (some ⟨wr.heap.size, 0, none⟩))) A n (k + 1) P := by rw [hsz]; exact hR.set hk
  have hB1 : Base w (wr.setCell ⟨A, k, none⟩ (.pointer (some ⟨wr.heap.size, 0, none⟩))) ta := hB.keep (hU.below (by simpa using hA))
  have hz : (wr.setCell ⟨A, k, none⟩ (.pointer (some ⟨wr.heap.size, 0, none⟩))).heap.size = P + k := by rw [World.size_setCell]; exact hsz
  generalize wr.setCell ⟨A, k, none⟩ (.pointer (some ⟨wr.heap.size, 0, none⟩)) = x at *
  have hb : Below x.heap.size x (x.alloc (.cells #[.iface 2 (.int .i64 (v k)), .nilIface] 50)) := (Below.refl _ _).alloc (Nat.le_refl _) _
  refine ⟨hR1.keep (hb.block _ (by omega)), ?_, by rw [World.size_alloc, hz]; omega, hB1.keep (hb.mono hB1.size)⟩
  intro j hj
  by_cases e : j = k
  · subst e
    unfold Pr
    rw [← hz]
    exact heap_new x _
  · exact (hb.block _ (by omega)).trans ((hU.block _ (by simp; omega)).trans (hQ j (by omega)))

/-- The cdrs as they stand when the first k are laid. -/
def links (k P j : Nat) : Value := if j < k then kp 32 (P + (j + 1)) else .nilIface
/-- The cdrs of a list of n pairs whose last is x. -/
def whole (n P : Nat) (x : Value) (j : Nat) : Value := if j + 1 < n then kp 32 (P + (j + 1)) else x

theorem Pr.set1 {w : World} {p : Nat} {car cdr : Value} (h : Pr w p car cdr) (x : Value) : Pr (w.setCell ⟨p, 1, none⟩ x) p car x := by
  unfold Pr
  rw [heap_setCell_same w p 1 _ 50 _ h]; rfl
theorem Pr.free {w : World} {p : Nat} {car cdr : Value} (h : Pr w p car cdr) (k : Nat) : w.frozen? ⟨p, k, none⟩ = false := frozen_of_row w p k _ 50 h
/-- One cdr is laid. -/
theorem Prs.set {w : World} {P n k : Nat} {v : Nat → Int} {lk lk' : Nat → Value} {x : Value} (h : Prs w P n v lk) (hk : k < n) (he : lk' k = x) (ho : ∀ j, j < n → j ≠ k → lk' j = lk j) : Prs (w.setCell ⟨P + k, 1, none⟩ x) P n v lk' := by
  intro j hj
  by_cases e : j = k
  · subst e
    rw [he]
    exact (h j hj).set1 x
  · rw [ho j hj e]
    have hU : Upd [P + k] w (w.setCell ⟨P + k, 1, none⟩ x) := (Upd.refl _ _).setCell _ (by simp) _
    exact (h j hj).keep hU (by simp; omega)

theorem links_step {m P j : Nat} (h : j ≠ m) : links (m + 1) P j = links m P j := by
  simp only [links]
  by_cases e : j < m
  · rw [if_pos e, if_pos (by omega)]
  · rw [if_neg e, if_neg (by omega)]
theorem Base.drew {w x : World} {ta : Bool} (h : Base w x ta) : Base w x.drew ta := ⟨h.test, h.held, h.ins, h.fin, h.size, h.below.drew⟩
/-- A cdr is laid. -/
theorem link_set {w wr : World} {ta : Bool} {A k m P : Nat} {v : Nat → Int} {lk lk' : Nat → Value} {x : Value} (hR : PRow wr A k k P) (hQ : Prs wr P k v lk) (hsz : wr.heap.size = P + k) (hB : Base w wr ta) (hm : m < k) (hA : w.heap.size + 4 ≤ A) (hAP : A < P) (he : lk' m = x) (ho : ∀ j, j < k → j ≠ m → lk' j = lk j) :
    PRow (wr.setCell ⟨P + m, 1, none⟩ x) A k k P ∧ Prs (wr.setCell ⟨P + m, 1, none⟩ x) P k v lk' ∧ (wr.setCell ⟨P + m, 1, none⟩ x).heap.size = P + k ∧ Base w (wr.setCell ⟨P + m, 1, none⟩ x) ta := by
  have hU : Upd [P + m] wr (wr.setCell ⟨P + m, 1, none⟩ x) := (Upd.refl _ _).setCell _ (by simp) _
  exact ⟨hR.keep (hU.block A (by simp; omega)), hQ.set hm he ho, by rw [World.size_setCell]; exact hsz, hB.keep (hU.below (by simp; omega))⟩
/-- .. where an order was drawn. -/
theorem link_round {w wr : World} {ta : Bool} {A k m P : Nat} {v : Nat → Int} {lk lk' : Nat → Value} {x : Value} (hR : PRow wr A k k P) (hQ : Prs wr P k v lk) (hsz : wr.heap.size = P + k) (hB : Base w wr ta) (hm : m < k) (hA : w.heap.size + 4 ≤ A) (hAP : A < P) (he : lk' m = x) (ho : ∀ j, j < k → j ≠ m → lk' j = lk j) :
    PRow (wr.setCell ⟨P + m, 1, none⟩ x).drew A k k P ∧ Prs (wr.setCell ⟨P + m, 1, none⟩ x).drew P k v lk' ∧ (wr.setCell ⟨P + m, 1, none⟩ x).drew.heap.size = P + k ∧ Base w (wr.setCell ⟨P + m, 1, none⟩ x).drew ta := by
  obtain ⟨h1, h2, h3, h4⟩ := link_set hR hQ hsz hB hm hA hAP he ho
  exact ⟨h1, h2, h3, h4.drew⟩

/-- The last pair's cdr. -/
def lastV (cyc tl : Int) (n P : Nat) : Value := if 0 ≤ cyc ∧ cyc < (n : Int) then kp 32 (P + cyc.toNat) else .iface 2 (.int .i64 tl)
theorem lastV_in {mu n P : Nat} {tl : Int} (h : mu < n) : lastV (mu : Int) tl n P = kp 32 (P + mu) := by
  rw [lastV, if_pos (by omega)]; rfl
theorem lastV_out {cyc tl : Int} {n P : Nat} (h : ¬ (0 ≤ cyc ∧ cyc < (n : Int))) : lastV cyc tl n P = .iface 2 (.int .i64 tl) := by
  rw [lastV, if_neg h]
theorem whole_last {m P : Nat} {x : Value} : whole (m + 1) P x m = x := by rw [whole, if_neg (by omega)]
theorem whole_links {m P j : Nat} {x : Value} (hj : j < m + 1) (hne : j ≠ m) : whole (m + 1) P x j = links m P j := by
  rw [whole, links, if_pos (by omega), if_pos (by omega)]

def ListMade (w : World) (n : Nat) (v : Nat → Int) (last : Nat → Value) (ta : Bool) (e : Ending) (w' : World) : Prop := ∃ F T H O c I S P A, e = .returned (.tuple #[.pointer (some ⟨F, 0, none⟩), .slice (some ⟨A, 0, none⟩) n n]) ∧ Ready w w' F T H O c I S ta (kp 32 P) ∧
  Sea w' S (kp 32 P) (kp 32 P) false (kp 32 P) 0 false 0 false ∧ PRow w' A n n P ∧ Prs w' P n v (whole n P (last P)) ∧ A ∉ [F, T, H, O, I, S] ∧ ∀ j, j < n → P + j ∉ [F, T, H, O, I, S]

theorem plain_at {wb w3 : World} {P n N : Nat} {v : Nat → Int} {lk : Nat → Value} (hQ : Prs wb P (n + 1) v lk) (hb : Below N wb w3) (hs : N = P + (n + 1)) : Plain w3 P := by
  have := hQ 0 (by omega)
  exact ⟨_, _, (hb.block P (by omega)).trans this⟩

theorem list_done {w wr w3 w5 : World} {ta : Bool} {n P A cp N : Nat} {v : Nat → Int} {last : Nat → Value} (hR : PRow wr A n n P) (hQ : Prs wr P n v (whole n P (last P))) (hsr : N = P + n) (hA : w.heap.size + 4 ≤ A) (hAP : A < P)
    (hB3 : Base w w3 ta) (hb3 : Below N wr w3) (hcp : 1 ≤ cp) (ho3 : w3.cell? ⟨N + 2, 0, none⟩ = some (.pointer (some ⟨N, 0, none⟩))) (hS3 : Sea w3 N (kp 32 P) (kp 32 P) false (kp 32 P) 0 false 0 false)
    (hM5 : MapIs w5 (w.heap.size + 2) [kp 32 P]) (hU5 : Upd [w.heap.size + 3, w.heap.size + 2] w3 w5) (hF5 : Fin w5 (w.heap.size + 3) w.heap.size (w.heap.size + 1) (N + 2) cp (w.heap.size + 2) 1) :
    ListMade w n v last ta (.returned (.tuple #[.pointer (some ⟨w.heap.size + 3, 0, none⟩), .slice (some ⟨A, 0, none⟩) n n])) w5 := by
  have hz := hB3.size
  refine ⟨w.heap.size + 3, w.heap.size, w.heap.size + 1, N + 2, cp, w.heap.size + 2, N, P, A, rfl, ⟨hF5, hcp, ?_, ?_, ?_, hM5, ?_, by omega, ?_⟩, ?_, ?_, ?_, ?_, ?_⟩
  · rw [hU5.cell (p := ⟨w.heap.size, 0, none⟩) (by simp), cell_of_row w3 w.heap.size 0 _ 4 (0, 0) hB3.test]; rfl
  · exact (hU5.cell (p := ⟨N + 2, 0, none⟩) (by simp; omega)).trans ho3
  · exact hU5.map (by simp) hB3.held
  · intro k hk
    simp at hk
    omega
  · exact hB3.below.trans (hU5.below (by simp))
  · exact hS3.keep hU5 (by simp; omega)
  · exact hR.keep ((hU5.block A (by simp; omega)).trans (hb3.block A (by omega)))
  · intro j hj
    exact (hU5.block (P + j) (by simp; omega)).trans ((hb3.block (P + j) (by omega)).trans (hQ j hj))
  · simp; omega
  · intro j hj
    simp; omega

set_option maxHeartbeats 3200000 in
set_option maxRecDepth 100000 in
theorem newList_any (a : Option Addr) (n cap : Nat) (v : Nat → Int) (tl cyc : Int) (ta : Bool) (w : World) (hr : Ints w a n v) (hn : n ≤ 65536) (hn0 : 0 < n) :
    Calls Try.prog 6 #[.slice a n cap, .int .i64 tl, .int .i64 cyc, .bool false, .bool ta] w fun e w' => ListMade w n v (fun P => lastV cyc tl n P) ta e w' := by
  have hmm := @run_makeMap Try.prog
  obtain ⟨i0, hi, hz0, hz1, hz2⟩ := info_parts info32
  obtain ⟨j0, hj, hy0, hy1, hy2⟩ := info_parts info44
  go_enter Try.func6, Try.ntmps6
  go_wp2_with (at_make; refine wpList_make_full _ rfl (.tmp 62) (.tmp 62) 25 rfl (w.heap.size + 4) 32 i0 (.pointer none) 1 Try.underlying25 hi hz0 hz1 _ _ _ _ n rfl rfl rfl rfl (by rw [hz2]; omega) (by unfold maxLen; omega) (by simp) ?_; intro w1 hown hgrow)
  have hB0 := base_of w ta
  have hz : ((((w.alloc (.cells #[.bool ta] 4)).alloc (.map #[] 0)).alloc (.map #[] 0)).alloc (.cells #[.func (.func 13) #[] #[.pointer (some ⟨w.heap.size, 0, none⟩)], .map (some (w.heap.size + 1)), .slice none 0 0, .map (some (w.heap.size + 1 + 1))] 39)).heap.size = w.heap.size + 4 := by simp
  have hB1 : Base w w1 ta := hB0.keep ((Below.refl _ _).grown hgrow (by rw [hz]; exact Nat.le_refl _) (by intro k hk; cases hk))
  rw [hz] at hown
  have hV1 := PRow.of (P := w1.heap.size) hown
  have hA1 : w.heap.size + 4 < w1.heap.size := hV1.lt
  clear hown hgrow hB0 hz hmm
  have eA : w.heap.size + 1 + 1 + 1 + 1 = w.heap.size + 4 := by omega
  have eF : w.heap.size + 1 + 1 + 1 = w.heap.size + 3 := by omega
  have eI : w.heap.size + 1 + 1 = w.heap.size + 2 := by omega
  rw [eA, eF, eI]
  clear eA eF eI
  obtain ⟨P, hP⟩ : ∃ P, w1.heap.size = P := ⟨_, rfl⟩
  rw [hP] at hV1 hA1
  generalize hAA : w.heap.size + 4 = A at *
  have HA : Hid (w.heap.size + 4 = A) := hAA
  have HP : Hid (w1.heap.size = P) := hP
  clear hAA hP
  go_loopw [66] (fun i wr => ∃ k : Nat, k ≤ n ∧ i = .int .i64 k ∧ PRow wr A n k P ∧ Prs wr P k v (fun _ => .nilIface) ∧ Hid (wr.heap.size = P + k) ∧ Base w wr ta) (fun i _ => n - (intOf i).toNat)
  case atStart => exact ⟨0, Nat.zero_le _, rfl, hV1, fun j hj => absurd hj (by omega), HP.out, hB1⟩
  case round =>
    clear hV1 hB1
    obtain ⟨k, hk, rfl, hR, hQ, hsz, hB⟩ := hrel
    by_cases hlt : k < n
    · obtain ⟨u, hu⟩ := hR.cell k hlt
      have hf := hR.free k
      have hAlt := hR.lt
      have hr' := hr.keep hB.below
      rcases hr' with h0 | ⟨b, off, hx, hbl, hc⟩
      · omega
      cases hx
      have ci := hc k hlt
      clear hc
      obtain ⟨q1, q2, q3, q4⟩ := list_round hR hQ hsz.out hB hlt (by have := HA.out; omega) hA1
      have Q1 := And.intro q1 (And.intro q2 (And.intro q3 q4))
      have HQ1 : Hid (_ ∧ _ ∧ _ ∧ _) := Q1
      clear q1 q2 q3 q4 Q1
      go_wp2
      go_roundw
      case rel => exact ⟨k + 1, by omega, by go_num, HQ1.out.1, HQ1.out.2.1, HQ1.out.2.2.1, HQ1.out.2.2.2⟩
      case measure => simp [intOf]; omega
    · obtain rfl : k = n := by omega
      have hQ0 : Prs wr P k v (links 0 P) := hQ
      clear hQ
      rename World => wa
      go_wp2
      go_loopw [18] (fun i wr => ∃ m : Nat, m + 1 ≤ k ∧ i = .int .i64 m ∧ PRow wr A k k P ∧ Prs wr P k v (links m P) ∧ Hid (wr.heap.size = P + k) ∧ Base w wr ta) (fun i _ => k - (intOf i).toNat)
      case atStart => exact ⟨0, hn0, rfl, hR, hQ0, hsz, hB⟩
      case round =>
        clear hR hQ0 hsz hB
        obtain ⟨m, hm, rfl, hR, hQ, hsz, hB⟩ := hrel
        have c0 := hR.at m (by omega)
        have hPm := hQ m (by omega)
        obtain ⟨p0, p1⟩ := hPm.cells
        have f1 := hPm.free 1
        by_cases hlt : m + 1 < k
        · have c1 := hR.at (m + 1) hlt
          have l0 : (0 : Int) ≤ (m : Int) := by omega
          have l1 : (m : Int) < (k : Int) := by omega
          have l2 : (m : Int) + 1 < (k : Int) := by omega
          have HQ1 := link_round (lk' := links (m + 1) P) (x := kp 32 (P + (m + 1))) hR hQ hsz.out hB (by omega) (by have := HA.out; omega) hA1 (by simp [links]) (fun j _ hne => links_step hne)
          have HQ2 : Hid (_ ∧ _ ∧ _ ∧ _) := HQ1
          clear HQ1
          clear hR hQ hPm
          go_wp2
          go_region
          go_wp2
          go_roundw
          case rel => exact ⟨m + 1, by omega, by go_num, HQ2.out.1, HQ2.out.2.1, HQ2.out.2.2.1, HQ2.out.2.2.2⟩
          case measure => simp [intOf]; omega
        · obtain rfl : k = m + 1 := by omega
          have hFP : w.heap.size + 3 < P := by have := HA.out; omega
          have hPF : P ≠ w.heap.size + 3 := by omega
          have hAw : w.heap.size + 4 ≤ A := by have := HA.out; omega
          have ca : wr.cell? ⟨A, 0, none⟩ = some (.pointer (some ⟨P, 0, none⟩)) := hR.at 0 (by omega)
          obtain ⟨a0, a1, a2, a3⟩ := hB.fin.cells
          have l0 : (0 : Int) ≤ (m : Int) := by omega
          by_cases hcy : 0 ≤ cyc ∧ cyc < (m : Int) + 1
          · obtain ⟨hcy0, hcy1⟩ := hcy
            obtain ⟨mu, rfl⟩ := Int.eq_ofNat_of_zero_le hcy0
            have c1 := hR.at mu (by omega)
            have Q4 := link_round (lk' := whole (m + 1) P (lastV (mu : Int) tl (m + 1) P)) (x := kp 32 (P + mu)) hR hQ hsz.out hB (by omega) hAw hA1 (by rw [whole_last, lastV_in (by omega)]) (fun j hj hne => whole_links hj hne)
            have HQ4' : Hid (_ ∧ _ ∧ _ ∧ _) := Q4
            clear Q4 hR hQ hPm hsz hB
            go_wp2_with fail
            go_region
            obtain ⟨hR4, hQ4, hs4, hB4⟩ := HQ4'.out
            clear HQ4' c0 c1 p0 p1 f1 ca a0 a1 a2 a3
            have e4 : (wr.setCell ⟨P + m, 1, none⟩ (kp 32 (P + mu))).drew = (wr.setCell ⟨P + m, 1, none⟩ (.iface 32 (.pointer (some ⟨P + mu, 0, none⟩)))).drew := rfl
            rw [e4] at hR4 hQ4 hs4 hB4
            clear e4
            generalize (wr.setCell ⟨P + m, 1, none⟩ (.iface 32 (.pointer (some ⟨P + mu, 0, none⟩)))).drew = wb at *
            have ca : wb.cell? ⟨A, 0, none⟩ = some (.pointer (some ⟨P, 0, none⟩)) := hR4.at 0 (by omega)
            obtain ⟨a0, a1, a2, a3⟩ := hB4.fin.cells
            have HR4 : Hid (PRow wb A (m + 1) (m + 1) P) := hR4
            have HQ4 : Hid (Prs wb P (m + 1) v (whole (m + 1) P (lastV (mu : Int) tl (m + 1) P))) := hQ4
            have HS4 : Hid (wb.heap.size = P + (m + 1)) := hs4
            have HB4 : Hid (Base w wb ta) := hB4
            clear hR4 hQ4 hs4 hB4
            go_wp2_with (at_builtin; refine wpList_append_lies _ rfl (.tmp 143) (.tmp 150) 37 rfl (w.heap.size + 4) 44 j0 (.pointer none) 1 8 Try.underlying37 hj hy0 hy1 hy2 rfl (by decide) (.slice none 0 0) 0 [] rfl (World.ownsRow_nil _ _ _ _) ⟨wb.heap.size + 1, 0, none⟩ 1 1 [.pointer (some ⟨wb.heap.size, 0, none⟩)] rfl rfl (cell_new_at _ _ _ _ (by simp)) (one_ptr _) Nat.one_pos (by decide) (by decide) (by have := HB4.out.size; simp; omega) (wb.heap.size + 2) (by simp) ?_; intro g cp w3 hown3 hgrow hat hltg; obtain ⟨hB3, hb3, hcp, ho3, hS3, hgg, hlt3⟩ := opened (t := 32) (p := P) HB4.out rfl rfl hown3 hgrow hat; subst hgg; obtain ⟨d0, d1, d2, d3⟩ := hB3.fin.cells; have fr := hB3.fin.free 2; obtain ⟨w5, hrun, hM5, hU5, hF5⟩ := insided ptr32 (wb.heap.size + 2) cp hB3 (plain_at HQ4.out hb3 HS4.out) hPF)
            go_ret2
            exact list_done HR4.out HQ4.out HS4.out hAw hA1 hB3 hb3 hcp ho3 hS3 hM5 hU5 hF5
          · have Q4 := link_set (lk' := whole (m + 1) P (lastV cyc tl (m + 1) P)) (x := .iface 2 (.int .i64 tl)) hR hQ hsz.out hB (by omega) hAw hA1 (by rw [whole_last, lastV_out (by omega)]) (fun j hj hne => whole_links hj hne)
            obtain ⟨hR4, hQ4, hs4, hB4⟩ := Q4
            have HR4 : Hid (PRow (wr.setCell ⟨P + m, 1, none⟩ (.iface 2 (.int .i64 tl))) A (m + 1) (m + 1) P) := hR4
            have HQ4 : Hid (Prs (wr.setCell ⟨P + m, 1, none⟩ (.iface 2 (.int .i64 tl))) P (m + 1) v (whole (m + 1) P (lastV cyc tl (m + 1) P))) := hQ4
            have HB4 : Hid (Base w (wr.setCell ⟨P + m, 1, none⟩ (.iface 2 (.int .i64 tl))) ta) := hB4
            clear hR4 hQ4 hs4 hB4 hR hQ hPm hB
            rcases (show cyc < 0 ∨ (0 ≤ cyc ∧ (m : Int) + 1 ≤ cyc) by omega) with hcz | ⟨hcz, hcz2⟩
            all_goals
              go_wp2_with (at_builtin; refine wpList_append_lies _ rfl (.tmp 143) (.tmp 150) 37 rfl (w.heap.size + 4) 44 j0 (.pointer none) 1 8 Try.underlying37 hj hy0 hy1 hy2 rfl (by decide) (.slice none 0 0) 0 [] rfl (World.ownsRow_nil _ _ _ _) ⟨wr.heap.size + 1, 0, none⟩ 1 1 [.pointer (some ⟨wr.heap.size, 0, none⟩)] rfl rfl (cell_new_at _ _ _ _ (by simp)) (one_ptr _) Nat.one_pos (by decide) (by decide) (by have := HB4.out.size; simp at this; simp; omega) (wr.heap.size + 2) (by simp) ?_; intro g cp w3 hown3 hgrow hat hltg; obtain ⟨hB3, hb3, hcp, ho3, hS3, hgg, hlt3⟩ := opened (t := 32) (p := P) HB4.out (World.size_setCell _ _ _) rfl hown3 hgrow hat; subst hgg; obtain ⟨d0, d1, d2, d3⟩ := hB3.fin.cells; have fr := hB3.fin.free 2; obtain ⟨w5, hrun, hM5, hU5, hF5⟩ := insided ptr32 (wr.heap.size + 2) cp hB3 (plain_at HQ4.out hb3 hsz.out) hPF)
              go_ret2
              exact list_done HR4.out HQ4.out hsz.out hAw hA1 hB3 hb3 hcp ho3 hS3 hM5 hU5 hF5
end Go.Proofs.Qxb6604422a

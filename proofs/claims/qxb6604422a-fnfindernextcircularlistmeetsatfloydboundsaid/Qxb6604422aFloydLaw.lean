/-
  Law 2.
-/
import Derived.Test.Qxb6604422aListLaw
namespace Go.Proofs.Qxb6604422a
open Go.RowKit

theorem S2.upd {w0 W : World} {b : Bk} {ta : Bool} {n mu P : Nat} {v : Nat → Int} {k : Nat} {rd : Bool} (h : S2 w0 W b ta n mu P v k rd) : Upd b.all w0 W := (LSt.firm h).upd
theorem S2.fin {w0 W : World} {b : Bk} {ta : Bool} {n mu P : Nat} {v : Nat → Int} {k : Nat} {rd : Bool} (h : S2 w0 W b ta n mu P v k rd) : Fin W b.F b.T b.H b.O b.c b.I 1 := (LSt.firm h).fin
theorem S2.held {w0 W : World} {b : Bk} {ta : Bool} {n mu P : Nat} {v : Nat → Int} {k : Nat} {rd : Bool} (h : S2 w0 W b ta n mu P v k rd) : MapIs W b.H ((found ta n P k).map (kp 32)) := LSt.held h

theorem meet_int {n mu : Nat} (hm : mu < n) (lo : Nat) (hlo : lo = if mu < 1 then 1 else mu) : ((lo : Int) + ((n : Int) - mu) - 1) / ((n : Int) - mu) * ((n : Int) - mu) = (meet n mu : Int) := by
  have e1 : ((lo + (n - mu) - 1 : Nat) : Int) = lo + ((n : Int) - mu) - 1 := by
    have : 1 ≤ lo := by rw [hlo]; split <;> omega
    omega
  have e2 : ((n - mu : Nat) : Int) = (n : Int) - mu := by omega
  rw [meet, ← hlo, Int.natCast_mul, Int.natCast_ediv, e1, e2]
theorem pos_int {n mu k : Nat} (hm : mu < n) (hk : mu ≤ k) : (mu : Int) + ((k : Int) - mu) % ((n : Int) - mu) = (pos n mu k : Int) := by
  have e1 : ((k - mu : Nat) : Int) = (k : Int) - mu := by omega
  have e2 : ((n - mu : Nat) : Int) = (n : Int) - mu := by omega
  rw [pos_round hm hk, Int.natCast_add, Int.natCast_emod, e1, e2]

theorem zzBytes12_any (a : Option Addr) (n cap : Nat) (cy : Int) (ta : Bool) (w : World) (hn : n ≤ maxLen) :
    Calls Try.prog 12 #[.slice a n cap, .int .i64 cy, .bool ta] w fun e w' => ∃ b : Bool, e = .returned (.bool b) ∧ w' = w := by
  unfold maxLen at hn
  go_enter Try.func12, Try.ntmps12
  go_wp2
  all_goals (go_ret; exact ⟨_, rfl, rfl⟩)

set_option maxRecDepth 100000 in
set_option maxHeartbeats 6400000 in
theorem floyd_law_false_zero (x : Addr) (n cap mu M : Nat) (v : Nat → Int) (w : World) (hr : Ints w (some x) n v) (hm : n ≤ maxLen) (hn : (n : Int) ≤ 65536) (hmu : mu < n) (hlo : mu < 1) (HM : Hid (M = meet n mu)) (hM1 : M ≤ n) (hM2 : n ≤ 2 * M)
    (hq : (1 + ((n : Int) - mu) - 1) / ((n : Int) - mu) * ((n : Int) - mu) = (M : Int)) :
    Calls Try.prog 4 #[.slice (some x) n cap, .int .i64 mu, .bool false] w fun e w' => e = .returned (.bool true) ∧ Below w.heap.size w w' := by
  have hm' := hm
  unfold maxLen at hm'
  obtain ⟨i0, hi, hz0, hz1, hz2⟩ := info_parts info2
  have hnil := fun w => run_neq_slice_nil_any (P := Try.prog) w 22 2 (some x) n cap 0 0 Try.underlying22
  have HQ : Hid ((1 + ((n : Int) - mu) - 1) / ((n : Int) - mu) * ((n : Int) - mu) = (M : Int)) := hq
  clear hq
  go_enter Try.func4, Try.ntmps4
  go_wp2_with fail
  refine (zzBytes12_any _ _ _ _ _ _ hm).mono ?_
  rintro e w' ⟨b, rfl, rfl⟩
  cases b
  · go_wp2_with fail
    go_ret
    exact ⟨rfl, Below.refl _ _⟩
  go_wp2_with (at_make; refine wpList_make_full _ rfl (.tmp 48) (.tmp 48) 22 rfl _ 2 i0 (.int .i64 0) 1 Try.underlying22 hi hz0 hz1 _ _ _ _ n rfl rfl rfl rfl (by rw [hz2]; omega) (by unfold maxLen; omega) (Nat.le_refl _) ?_; intro w1 hown hgrow)
  obtain ⟨hrow, hb1⟩ := IRow.of hown hgrow
  clear hown hgrow
  go_loopw [9] (fun i wr => ∃ (k : Nat) (t : Nat → Int), k ≤ n ∧ i = .int .i64 k ∧ IRow wr w'.heap.size n t ∧ Hid (∀ i, i < k → t i = v i) ∧ Below w'.heap.size w' wr) (fun i _ => n - (intOf i).toNat)
  case atStart => exact ⟨0, _, Nat.zero_le _, rfl, hrow, fun i hi => absurd hi (by omega), hb1⟩
  case round =>
    clear hrow hb1 hnil
    obtain ⟨k, t, hk, rfl, hR, hT, hB⟩ := hrel
    by_cases hlt : k < n
    · rcases hr with h0 | ⟨b, off, hx, hbl, hc⟩
      · omega
      cases hx
      have hv2 := (hB.cell (p := ⟨b, off + k, none⟩) hbl).trans (hc k hlt)
      have hv1 := hR.cell k hlt
      have hf := hR.free k
      clear hc
      go_wp2
      go_roundw
      case rel => exact ⟨k + 1, _, by omega, by go_num, hR.set _ _, copy_step hT.out, hB.setCell (Nat.le_refl _) _⟩
      case measure => simp [intOf]; omega
    · have hr1 : Ints wr (some ⟨w'.heap.size, 0, none⟩) n v := (hR.congr (fun i hi => hT.out i (by omega))).ints
      have hb1 : Below w'.heap.size w' wr := hB
      clear hR hT hB hr
      rename World => w1
      clear hz0 hz1 hz2 hi
      have hq := HQ.out
      go_wp2_with fail
      clear hq
      refine (newList_any (some ⟨w'.heap.size, 0, none⟩) n n v 0 (mu : Int) false _ hr1 (by omega) (by omega)).mono ?_
      rintro e w2 ⟨F, T, H, O, c, I, S, P, A, rfl, hRd, hSea, hPR, hQ, hfA, hfar⟩
      obtain ⟨b, hb⟩ : ∃ b : Bk, b = ⟨F, T, H, O, c, I, S⟩ := ⟨_, rfl⟩
      have hFb : F = b.F := by rw [hb]
      have hst : S2 w2 w2 b false n mu P v 0 false := by rw [hb]; exact S2.start hRd hSea hQ hfar hmu
      have hold : Hid (∀ k, k ∈ b.all → w1.heap.size ≤ k) := by rw [hb]; exact hRd.old
      have hbel : Below w1.heap.size w1 w2 := hRd.below
      have hAp : Hid (Apart w2 b n P) := by rw [hb]; exact apart_of hQ hfar
      have hfA' : Hid (A ∉ b.all) := by rw [hb]; exact hfA
      have HPR : Hid (PRow w2 A n n P) := hPR
      clear hb hRd hSea hQ hfA hfar hPR
      subst hFb
      go_wp2_with fail
      go_loopw [17] (fun i wr => ∃ k : Nat, k ≤ 2 * M ∧ i = .int .i64 k ∧ S2 w2 wr b false n mu P v k (decide (k = 2 * M))) (fun i _ => 2 * M - (intOf i).toNat)
      case atStart => exact ⟨0, Nat.zero_le _, rfl, by rw [decide_eq_false (by omega)]; exact hst⟩
      case round =>
        clear hst
        obtain ⟨k, hk, rfl, hst⟩ := hrel
        by_cases hlt : k < 2 * M
        · rw [decide_eq_false (by omega)] at hst
          have hp := pos_lt (n := n) (mu := mu) (j := k) hmu
          obtain ⟨p, hpp⟩ : ∃ p, p = pos n mu k := ⟨_, rfl⟩
          have hcall := hst.next (by rw [← HM.out]; omega) hmu (by omega)
          rw [← HM.out] at hcall
          rw [← hpp] at hp hcall
          by_cases hin : k < n
          · obtain rfl : p = k := by rw [hpp, pos_in hin]
            have Hpp : Hid (_ = _) := hpp
            clear hpp
            go_wp2_with fail
            refine hcall.mono ?_
            clear hcall hst
            rintro e w3 ⟨rfl, hst⟩
            have hr3 := hr1.upd hbel hst.upd hold.out
            rcases hr3 with h0 | ⟨ib, off, hx, hbl, hc⟩
            · omega
            cases hx
            have ci := hc p hp
            have ci2 := ci
            rw [Nat.zero_add] at ci2
            clear hc
            obtain ⟨x, hx⟩ : ∃ x, x = v p := ⟨_, rfl⟩
            rw [← hx] at ci ci2
            rw [← hx]
            clear hx
            go_wp2_with fail
            refine (held_none hst.fin hst.held).mono ?_
            rintro e w4 ⟨rfl, rfl⟩
            go_wp2_with fail
            go_roundw
            case rel => exact ⟨_, by omega, by go_num, hst⟩
            case measure => simp [intOf]; omega
          · have hpi : (mu : Int) + ((k : Int) - mu) % ((n : Int) - mu) = (p : Int) := by rw [hpp]; exact pos_int hmu (by omega)
            have Hpp : Hid (_ = _) := hpp
            clear hpp
            go_wp2_with fail
            refine hcall.mono ?_
            clear hcall hst
            rintro e w3 ⟨rfl, hst⟩
            have hr3 := hr1.upd hbel hst.upd hold.out
            rcases hr3 with h0 | ⟨ib, off, hx, hbl, hc⟩
            · omega
            cases hx
            have ci := hc p hp
            have ci2 := ci
            rw [Nat.zero_add] at ci2
            clear hc
            obtain ⟨x, hx⟩ : ∃ x, x = v p := ⟨_, rfl⟩
            rw [← hx] at ci ci2
            rw [← hx]
            clear hx
            go_wp2_with fail
            refine (held_none hst.fin hst.held).mono ?_
            rintro e w4 ⟨rfl, rfl⟩
            go_wp2_with fail
            go_roundw
            case rel => exact ⟨_, by omega, by go_num, hst⟩
            case measure => simp [intOf]; omega
        · obtain rfl : k = 2 * M := by omega
          rw [decide_eq_true rfl] at hst
          rw [HM.out] at hst
          have hcall := hst.close hmu
          rw [← HM.out] at hcall
          go_wp2_with fail
          refine hcall.mono ?_
          clear hst hcall
          rintro e w3 ⟨rfl, hsh⟩
          go_wp2_with fail
          refine (openLen_any _ _ _ _ _ _ _ _ hsh.fin).mono ?_
          rintro e w4 ⟨rfl, rfl⟩
          go_wp2_with fail
          refine (insideLen_any _ _ _ _ _ _ _ 0 _ rfl _ hsh.fin hsh.ins).mono ?_
          rintro e w4 ⟨rfl, rfl⟩
          go_wp2_with fail
          refine (held_none hsh.fin hsh.held).mono ?_
          rintro e w5 ⟨rfl, rfl⟩
          go_wp2_with fail
          go_ret
          exact ⟨rfl, hb1.trans ((hbel.trans (hsh.upd.below hold.out)).mono hb1.size)⟩

set_option maxRecDepth 100000 in
set_option maxHeartbeats 6400000 in
theorem floyd_law_false_more (x : Addr) (n cap mu M : Nat) (v : Nat → Int) (w : World) (hr : Ints w (some x) n v) (hm : n ≤ maxLen) (hn : (n : Int) ≤ 65536) (hmu : mu < n) (hlo : 1 ≤ mu) (HM : Hid (M = meet n mu)) (hM1 : M ≤ n) (hM2 : n ≤ 2 * M)
    (hq : ((mu : Int) + ((n : Int) - mu) - 1) / ((n : Int) - mu) * ((n : Int) - mu) = (M : Int)) :
    Calls Try.prog 4 #[.slice (some x) n cap, .int .i64 mu, .bool false] w fun e w' => e = .returned (.bool true) ∧ Below w.heap.size w w' := by
  have hm' := hm
  unfold maxLen at hm'
  obtain ⟨i0, hi, hz0, hz1, hz2⟩ := info_parts info2
  have hnil := fun w => run_neq_slice_nil_any (P := Try.prog) w 22 2 (some x) n cap 0 0 Try.underlying22
  have HQ : Hid (((mu : Int) + ((n : Int) - mu) - 1) / ((n : Int) - mu) * ((n : Int) - mu) = (M : Int)) := hq
  clear hq
  go_enter Try.func4, Try.ntmps4
  go_wp2_with fail
  refine (zzBytes12_any _ _ _ _ _ _ hm).mono ?_
  rintro e w' ⟨b, rfl, rfl⟩
  cases b
  · go_wp2_with fail
    go_ret
    exact ⟨rfl, Below.refl _ _⟩
  go_wp2_with (at_make; refine wpList_make_full _ rfl (.tmp 48) (.tmp 48) 22 rfl _ 2 i0 (.int .i64 0) 1 Try.underlying22 hi hz0 hz1 _ _ _ _ n rfl rfl rfl rfl (by rw [hz2]; omega) (by unfold maxLen; omega) (Nat.le_refl _) ?_; intro w1 hown hgrow)
  obtain ⟨hrow, hb1⟩ := IRow.of hown hgrow
  clear hown hgrow
  go_loopw [9] (fun i wr => ∃ (k : Nat) (t : Nat → Int), k ≤ n ∧ i = .int .i64 k ∧ IRow wr w'.heap.size n t ∧ Hid (∀ i, i < k → t i = v i) ∧ Below w'.heap.size w' wr) (fun i _ => n - (intOf i).toNat)
  case atStart => exact ⟨0, _, Nat.zero_le _, rfl, hrow, fun i hi => absurd hi (by omega), hb1⟩
  case round =>
    clear hrow hb1 hnil
    obtain ⟨k, t, hk, rfl, hR, hT, hB⟩ := hrel
    by_cases hlt : k < n
    · rcases hr with h0 | ⟨b, off, hx, hbl, hc⟩
      · omega
      cases hx
      have hv2 := (hB.cell (p := ⟨b, off + k, none⟩) hbl).trans (hc k hlt)
      have hv1 := hR.cell k hlt
      have hf := hR.free k
      clear hc
      go_wp2
      go_roundw
      case rel => exact ⟨k + 1, _, by omega, by go_num, hR.set _ _, copy_step hT.out, hB.setCell (Nat.le_refl _) _⟩
      case measure => simp [intOf]; omega
    · have hr1 : Ints wr (some ⟨w'.heap.size, 0, none⟩) n v := (hR.congr (fun i hi => hT.out i (by omega))).ints
      have hb1 : Below w'.heap.size w' wr := hB
      clear hR hT hB hr
      rename World => w1
      clear hz0 hz1 hz2 hi
      have hq := HQ.out
      go_wp2_with fail
      clear hq
      refine (newList_any (some ⟨w'.heap.size, 0, none⟩) n n v 0 (mu : Int) false _ hr1 (by omega) (by omega)).mono ?_
      rintro e w2 ⟨F, T, H, O, c, I, S, P, A, rfl, hRd, hSea, hPR, hQ, hfA, hfar⟩
      obtain ⟨b, hb⟩ : ∃ b : Bk, b = ⟨F, T, H, O, c, I, S⟩ := ⟨_, rfl⟩
      have hFb : F = b.F := by rw [hb]
      have hst : S2 w2 w2 b false n mu P v 0 false := by rw [hb]; exact S2.start hRd hSea hQ hfar hmu
      have hold : Hid (∀ k, k ∈ b.all → w1.heap.size ≤ k) := by rw [hb]; exact hRd.old
      have hbel : Below w1.heap.size w1 w2 := hRd.below
      have hAp : Hid (Apart w2 b n P) := by rw [hb]; exact apart_of hQ hfar
      have hfA' : Hid (A ∉ b.all) := by rw [hb]; exact hfA
      have HPR : Hid (PRow w2 A n n P) := hPR
      clear hb hRd hSea hQ hfA hfar hPR
      subst hFb
      go_wp2_with fail
      go_loopw [17] (fun i wr => ∃ k : Nat, k ≤ 2 * M ∧ i = .int .i64 k ∧ S2 w2 wr b false n mu P v k (decide (k = 2 * M))) (fun i _ => 2 * M - (intOf i).toNat)
      case atStart => exact ⟨0, Nat.zero_le _, rfl, by rw [decide_eq_false (by omega)]; exact hst⟩
      case round =>
        clear hst
        obtain ⟨k, hk, rfl, hst⟩ := hrel
        by_cases hlt : k < 2 * M
        · rw [decide_eq_false (by omega)] at hst
          have hp := pos_lt (n := n) (mu := mu) (j := k) hmu
          obtain ⟨p, hpp⟩ : ∃ p, p = pos n mu k := ⟨_, rfl⟩
          have hcall := hst.next (by rw [← HM.out]; omega) hmu (by omega)
          rw [← HM.out] at hcall
          rw [← hpp] at hp hcall
          by_cases hin : k < n
          · obtain rfl : p = k := by rw [hpp, pos_in hin]
            have Hpp : Hid (_ = _) := hpp
            clear hpp
            go_wp2_with fail
            refine hcall.mono ?_
            clear hcall hst
            rintro e w3 ⟨rfl, hst⟩
            have hr3 := hr1.upd hbel hst.upd hold.out
            rcases hr3 with h0 | ⟨ib, off, hx, hbl, hc⟩
            · omega
            cases hx
            have ci := hc p hp
            have ci2 := ci
            rw [Nat.zero_add] at ci2
            clear hc
            obtain ⟨x, hx⟩ : ∃ x, x = v p := ⟨_, rfl⟩
            rw [← hx] at ci ci2
            rw [← hx]
            clear hx
            go_wp2_with fail
            refine (held_none hst.fin hst.held).mono ?_
            rintro e w4 ⟨rfl, rfl⟩
            go_wp2_with fail
            go_roundw
            case rel => exact ⟨_, by omega, by go_num, hst⟩
            case measure => simp [intOf]; omega
          · have hpi : (mu : Int) + ((k : Int) - mu) % ((n : Int) - mu) = (p : Int) := by rw [hpp]; exact pos_int hmu (by omega)
            have Hpp : Hid (_ = _) := hpp
            clear hpp
            go_wp2_with fail
            refine hcall.mono ?_
            clear hcall hst
            rintro e w3 ⟨rfl, hst⟩
            have hr3 := hr1.upd hbel hst.upd hold.out
            rcases hr3 with h0 | ⟨ib, off, hx, hbl, hc⟩
            · omega
            cases hx
            have ci := hc p hp
            have ci2 := ci
            rw [Nat.zero_add] at ci2
            clear hc
            obtain ⟨x, hx⟩ : ∃ x, x = v p := ⟨_, rfl⟩
            rw [← hx] at ci ci2
            rw [← hx]
            clear hx
            go_wp2_with fail
            refine (held_none hst.fin hst.held).mono ?_
            rintro e w4 ⟨rfl, rfl⟩
            go_wp2_with fail
            go_roundw
            case rel => exact ⟨_, by omega, by go_num, hst⟩
            case measure => simp [intOf]; omega
        · obtain rfl : k = 2 * M := by omega
          rw [decide_eq_true rfl] at hst
          rw [HM.out] at hst
          have hcall := hst.close hmu
          rw [← HM.out] at hcall
          go_wp2_with fail
          refine hcall.mono ?_
          clear hst hcall
          rintro e w3 ⟨rfl, hsh⟩
          go_wp2_with fail
          refine (openLen_any _ _ _ _ _ _ _ _ hsh.fin).mono ?_
          rintro e w4 ⟨rfl, rfl⟩
          go_wp2_with fail
          refine (insideLen_any _ _ _ _ _ _ _ 0 _ rfl _ hsh.fin hsh.ins).mono ?_
          rintro e w4 ⟨rfl, rfl⟩
          go_wp2_with fail
          refine (held_none hsh.fin hsh.held).mono ?_
          rintro e w5 ⟨rfl, rfl⟩
          go_wp2_with fail
          go_ret
          exact ⟨rfl, hb1.trans ((hbel.trans (hsh.upd.below hold.out)).mono hb1.size)⟩

set_option maxRecDepth 100000 in
set_option maxHeartbeats 6400000 in
theorem floyd_law_true_zero (x : Addr) (n cap mu M : Nat) (v : Nat → Int) (w : World) (hr : Ints w (some x) n v) (hm : n ≤ maxLen) (hn : (n : Int) ≤ 65536) (hmu : mu < n) (hlo : mu < 1) (HM : Hid (M = meet n mu)) (hM1 : M ≤ n) (hM2 : n ≤ 2 * M)
    (hq : (1 + ((n : Int) - mu) - 1) / ((n : Int) - mu) * ((n : Int) - mu) = (M : Int)) :
    Calls Try.prog 4 #[.slice (some x) n cap, .int .i64 mu, .bool true] w fun e w' => e = .returned (.bool true) ∧ Below w.heap.size w w' := by
  have hm' := hm
  unfold maxLen at hm'
  obtain ⟨i0, hi, hz0, hz1, hz2⟩ := info_parts info2
  have hnil := fun w => run_neq_slice_nil_any (P := Try.prog) w 22 2 (some x) n cap 0 0 Try.underlying22
  have HQ : Hid ((1 + ((n : Int) - mu) - 1) / ((n : Int) - mu) * ((n : Int) - mu) = (M : Int)) := hq
  clear hq
  go_enter Try.func4, Try.ntmps4
  go_wp2_with fail
  refine (zzBytes12_any _ _ _ _ _ _ hm).mono ?_
  rintro e w' ⟨b, rfl, rfl⟩
  cases b
  · go_wp2_with fail
    go_ret
    exact ⟨rfl, Below.refl _ _⟩
  go_wp2_with (at_make; refine wpList_make_full _ rfl (.tmp 48) (.tmp 48) 22 rfl _ 2 i0 (.int .i64 0) 1 Try.underlying22 hi hz0 hz1 _ _ _ _ n rfl rfl rfl rfl (by rw [hz2]; omega) (by unfold maxLen; omega) (Nat.le_refl _) ?_; intro w1 hown hgrow)
  obtain ⟨hrow, hb1⟩ := IRow.of hown hgrow
  clear hown hgrow
  go_loopw [9] (fun i wr => ∃ (k : Nat) (t : Nat → Int), k ≤ n ∧ i = .int .i64 k ∧ IRow wr w'.heap.size n t ∧ Hid (∀ i, i < k → t i = v i) ∧ Below w'.heap.size w' wr) (fun i _ => n - (intOf i).toNat)
  case atStart => exact ⟨0, _, Nat.zero_le _, rfl, hrow, fun i hi => absurd hi (by omega), hb1⟩
  case round =>
    clear hrow hb1 hnil
    obtain ⟨k, t, hk, rfl, hR, hT, hB⟩ := hrel
    by_cases hlt : k < n
    · rcases hr with h0 | ⟨b, off, hx, hbl, hc⟩
      · omega
      cases hx
      have hv2 := (hB.cell (p := ⟨b, off + k, none⟩) hbl).trans (hc k hlt)
      have hv1 := hR.cell k hlt
      have hf := hR.free k
      clear hc
      go_wp2
      go_roundw
      case rel => exact ⟨k + 1, _, by omega, by go_num, hR.set _ _, copy_step hT.out, hB.setCell (Nat.le_refl _) _⟩
      case measure => simp [intOf]; omega
    · have hr1 : Ints wr (some ⟨w'.heap.size, 0, none⟩) n v := (hR.congr (fun i hi => hT.out i (by omega))).ints
      have hb1 : Below w'.heap.size w' wr := hB
      clear hR hT hB hr
      rename World => w1
      clear hz0 hz1 hz2 hi
      have hq := HQ.out
      go_wp2_with fail
      clear hq
      refine (newList_any (some ⟨w'.heap.size, 0, none⟩) n n v 0 (mu : Int) true _ hr1 (by omega) (by omega)).mono ?_
      rintro e w2 ⟨F, T, H, O, c, I, S, P, A, rfl, hRd, hSea, hPR, hQ, hfA, hfar⟩
      obtain ⟨b, hb⟩ : ∃ b : Bk, b = ⟨F, T, H, O, c, I, S⟩ := ⟨_, rfl⟩
      have hFb : F = b.F := by rw [hb]
      have hst : S2 w2 w2 b true n mu P v 0 false := by rw [hb]; exact S2.start hRd hSea hQ hfar hmu
      have hold : Hid (∀ k, k ∈ b.all → w1.heap.size ≤ k) := by rw [hb]; exact hRd.old
      have hbel : Below w1.heap.size w1 w2 := hRd.below
      have hAp : Hid (Apart w2 b n P) := by rw [hb]; exact apart_of hQ hfar
      have hfA' : Hid (A ∉ b.all) := by rw [hb]; exact hfA
      have HPR : Hid (PRow w2 A n n P) := hPR
      clear hb hRd hSea hQ hfA hfar hPR
      subst hFb
      go_wp2_with fail
      go_loopw [17] (fun i wr => ∃ k : Nat, k ≤ 2 * M ∧ i = .int .i64 k ∧ S2 w2 wr b true n mu P v k (decide (k = 2 * M))) (fun i _ => 2 * M - (intOf i).toNat)
      case atStart => exact ⟨0, Nat.zero_le _, rfl, by rw [decide_eq_false (by omega)]; exact hst⟩
      case round =>
        clear hst
        obtain ⟨k, hk, rfl, hst⟩ := hrel
        by_cases hlt : k < 2 * M
        · rw [decide_eq_false (by omega)] at hst
          have hp := pos_lt (n := n) (mu := mu) (j := k) hmu
          obtain ⟨p, hpp⟩ : ∃ p, p = pos n mu k := ⟨_, rfl⟩
          have hcall := hst.next (by rw [← HM.out]; omega) hmu (by omega)
          rw [← HM.out] at hcall
          rw [← hpp] at hp hcall
          by_cases hin : k < n
          · obtain rfl : p = k := by rw [hpp, pos_in hin]
            have Hpp : Hid (_ = _) := hpp
            clear hpp
            go_wp2_with fail
            refine hcall.mono ?_
            clear hcall hst
            rintro e w3 ⟨rfl, hst⟩
            have hr3 := hr1.upd hbel hst.upd hold.out
            rcases hr3 with h0 | ⟨ib, off, hx, hbl, hc⟩
            · omega
            cases hx
            have ci := hc p hp
            have ci2 := ci
            rw [Nat.zero_add] at ci2
            clear hc
            obtain ⟨x, hx⟩ : ∃ x, x = v p := ⟨_, rfl⟩
            rw [← hx] at ci ci2
            rw [← hx]
            clear hx
            have hPw := (HPR.out.keep (hst.upd.block A hfA'.out)).at p hp
            have hPw2 := hPw
            rw [← Nat.zero_add p] at hPw2
            go_wp2_with fail
            refine (held_at hAp.out hst.upd hst.fin hst.held (by omega)).mono ?_
            rintro e w4 ⟨rfl, rfl⟩
            go_wp2_with fail
            refine (held_len hst.fin hst.held ((p : Int) + 1) (by omega)).mono ?_
            rintro e w4 ⟨rfl, rfl⟩
            go_wp2_with fail
            go_roundw
            case rel => exact ⟨_, by omega, by go_num, hst⟩
            case measure => simp [intOf]; omega
          · have hpi : (mu : Int) + ((k : Int) - mu) % ((n : Int) - mu) = (p : Int) := by rw [hpp]; exact pos_int hmu (by omega)
            have Hpp : Hid (_ = _) := hpp
            clear hpp
            go_wp2_with fail
            refine hcall.mono ?_
            clear hcall hst
            rintro e w3 ⟨rfl, hst⟩
            have hr3 := hr1.upd hbel hst.upd hold.out
            rcases hr3 with h0 | ⟨ib, off, hx, hbl, hc⟩
            · omega
            cases hx
            have ci := hc p hp
            have ci2 := ci
            rw [Nat.zero_add] at ci2
            clear hc
            obtain ⟨x, hx⟩ : ∃ x, x = v p := ⟨_, rfl⟩
            rw [← hx] at ci ci2
            rw [← hx]
            clear hx
            have hPw := (HPR.out.keep (hst.upd.block A hfA'.out)).at p hp
            have hPw2 := hPw
            rw [← Nat.zero_add p] at hPw2
            go_wp2_with fail
            refine (held_at hAp.out hst.upd hst.fin hst.held (by omega)).mono ?_
            rintro e w4 ⟨rfl, rfl⟩
            go_wp2_with fail
            refine (held_len hst.fin hst.held (n : Int) (by omega)).mono ?_
            rintro e w4 ⟨rfl, rfl⟩
            go_wp2_with fail
            go_roundw
            case rel => exact ⟨_, by omega, by go_num, hst⟩
            case measure => simp [intOf]; omega
        · obtain rfl : k = 2 * M := by omega
          rw [decide_eq_true rfl] at hst
          rw [HM.out] at hst
          have hcall := hst.close hmu
          rw [← HM.out] at hcall
          go_wp2_with fail
          refine hcall.mono ?_
          clear hst hcall
          rintro e w3 ⟨rfl, hsh⟩
          go_wp2_with fail
          refine (openLen_any _ _ _ _ _ _ _ _ hsh.fin).mono ?_
          rintro e w4 ⟨rfl, rfl⟩
          go_wp2_with fail
          refine (insideLen_any _ _ _ _ _ _ _ 0 _ rfl _ hsh.fin hsh.ins).mono ?_
          rintro e w4 ⟨rfl, rfl⟩
          go_wp2_with fail
          go_loopw [27] (fun i wr => ∃ k : Nat, k ≤ n ∧ i = .int .i64 k ∧ wr = w4) (fun i _ => n - (intOf i).toNat)
          case atStart => exact ⟨0, Nat.zero_le _, rfl, by trivial⟩
          case round =>
            obtain ⟨k, hk, rfl, rfl⟩ := hrel
            by_cases hlt : k < n
            · have hPw := (HPR.out.keep (hsh.upd.block A hfA'.out)).at k hlt
              have hPw2 := hPw
              rw [← Nat.zero_add k] at hPw2
              go_wp2_with fail
              refine (held_at hAp.out hsh.upd hsh.fin hsh.held (by omega)).mono ?_
              rintro e w5 ⟨rfl, rfl⟩
              go_wp2_with fail
              go_roundw
              case rel => exact ⟨k + 1, by omega, by go_num, by trivial⟩
              case measure => simp [intOf]; omega
            · obtain rfl : k = n := by omega
              go_wp2_with fail
              refine (held_len hsh.fin hsh.held (k : Int) (by omega)).mono ?_
              rintro e w5 ⟨rfl, rfl⟩
              go_wp2_with fail
              go_ret
              exact ⟨rfl, hb1.trans ((hbel.trans (hsh.upd.below hold.out)).mono hb1.size)⟩

set_option maxRecDepth 100000 in
set_option maxHeartbeats 6400000 in
theorem floyd_law_true_more (x : Addr) (n cap mu M : Nat) (v : Nat → Int) (w : World) (hr : Ints w (some x) n v) (hm : n ≤ maxLen) (hn : (n : Int) ≤ 65536) (hmu : mu < n) (hlo : 1 ≤ mu) (HM : Hid (M = meet n mu)) (hM1 : M ≤ n) (hM2 : n ≤ 2 * M)
    (hq : ((mu : Int) + ((n : Int) - mu) - 1) / ((n : Int) - mu) * ((n : Int) - mu) = (M : Int)) :
    Calls Try.prog 4 #[.slice (some x) n cap, .int .i64 mu, .bool true] w fun e w' => e = .returned (.bool true) ∧ Below w.heap.size w w' := by
  have hm' := hm
  unfold maxLen at hm'
  obtain ⟨i0, hi, hz0, hz1, hz2⟩ := info_parts info2
  have hnil := fun w => run_neq_slice_nil_any (P := Try.prog) w 22 2 (some x) n cap 0 0 Try.underlying22
  have HQ : Hid (((mu : Int) + ((n : Int) - mu) - 1) / ((n : Int) - mu) * ((n : Int) - mu) = (M : Int)) := hq
  clear hq
  go_enter Try.func4, Try.ntmps4
  go_wp2_with fail
  refine (zzBytes12_any _ _ _ _ _ _ hm).mono ?_
  rintro e w' ⟨b, rfl, rfl⟩
  cases b
  · go_wp2_with fail
    go_ret
    exact ⟨rfl, Below.refl _ _⟩
  go_wp2_with (at_make; refine wpList_make_full _ rfl (.tmp 48) (.tmp 48) 22 rfl _ 2 i0 (.int .i64 0) 1 Try.underlying22 hi hz0 hz1 _ _ _ _ n rfl rfl rfl rfl (by rw [hz2]; omega) (by unfold maxLen; omega) (Nat.le_refl _) ?_; intro w1 hown hgrow)
  obtain ⟨hrow, hb1⟩ := IRow.of hown hgrow
  clear hown hgrow
  go_loopw [9] (fun i wr => ∃ (k : Nat) (t : Nat → Int), k ≤ n ∧ i = .int .i64 k ∧ IRow wr w'.heap.size n t ∧ Hid (∀ i, i < k → t i = v i) ∧ Below w'.heap.size w' wr) (fun i _ => n - (intOf i).toNat)
  case atStart => exact ⟨0, _, Nat.zero_le _, rfl, hrow, fun i hi => absurd hi (by omega), hb1⟩
  case round =>
    clear hrow hb1 hnil
    obtain ⟨k, t, hk, rfl, hR, hT, hB⟩ := hrel
    by_cases hlt : k < n
    · rcases hr with h0 | ⟨b, off, hx, hbl, hc⟩
      · omega
      cases hx
      have hv2 := (hB.cell (p := ⟨b, off + k, none⟩) hbl).trans (hc k hlt)
      have hv1 := hR.cell k hlt
      have hf := hR.free k
      clear hc
      go_wp2
      go_roundw
      case rel => exact ⟨k + 1, _, by omega, by go_num, hR.set _ _, copy_step hT.out, hB.setCell (Nat.le_refl _) _⟩
      case measure => simp [intOf]; omega
    · have hr1 : Ints wr (some ⟨w'.heap.size, 0, none⟩) n v := (hR.congr (fun i hi => hT.out i (by omega))).ints
      have hb1 : Below w'.heap.size w' wr := hB
      clear hR hT hB hr
      rename World => w1
      clear hz0 hz1 hz2 hi
      have hq := HQ.out
      go_wp2_with fail
      clear hq
      refine (newList_any (some ⟨w'.heap.size, 0, none⟩) n n v 0 (mu : Int) true _ hr1 (by omega) (by omega)).mono ?_
      rintro e w2 ⟨F, T, H, O, c, I, S, P, A, rfl, hRd, hSea, hPR, hQ, hfA, hfar⟩
      obtain ⟨b, hb⟩ : ∃ b : Bk, b = ⟨F, T, H, O, c, I, S⟩ := ⟨_, rfl⟩
      have hFb : F = b.F := by rw [hb]
      have hst : S2 w2 w2 b true n mu P v 0 false := by rw [hb]; exact S2.start hRd hSea hQ hfar hmu
      have hold : Hid (∀ k, k ∈ b.all → w1.heap.size ≤ k) := by rw [hb]; exact hRd.old
      have hbel : Below w1.heap.size w1 w2 := hRd.below
      have hAp : Hid (Apart w2 b n P) := by rw [hb]; exact apart_of hQ hfar
      have hfA' : Hid (A ∉ b.all) := by rw [hb]; exact hfA
      have HPR : Hid (PRow w2 A n n P) := hPR
      clear hb hRd hSea hQ hfA hfar hPR
      subst hFb
      go_wp2_with fail
      go_loopw [17] (fun i wr => ∃ k : Nat, k ≤ 2 * M ∧ i = .int .i64 k ∧ S2 w2 wr b true n mu P v k (decide (k = 2 * M))) (fun i _ => 2 * M - (intOf i).toNat)
      case atStart => exact ⟨0, Nat.zero_le _, rfl, by rw [decide_eq_false (by omega)]; exact hst⟩
      case round =>
        clear hst
        obtain ⟨k, hk, rfl, hst⟩ := hrel
        by_cases hlt : k < 2 * M
        · rw [decide_eq_false (by omega)] at hst
          have hp := pos_lt (n := n) (mu := mu) (j := k) hmu
          obtain ⟨p, hpp⟩ : ∃ p, p = pos n mu k := ⟨_, rfl⟩
          have hcall := hst.next (by rw [← HM.out]; omega) hmu (by omega)
          rw [← HM.out] at hcall
          rw [← hpp] at hp hcall
          by_cases hin : k < n
          · obtain rfl : p = k := by rw [hpp, pos_in hin]
            have Hpp : Hid (_ = _) := hpp
            clear hpp
            go_wp2_with fail
            refine hcall.mono ?_
            clear hcall hst
            rintro e w3 ⟨rfl, hst⟩
            have hr3 := hr1.upd hbel hst.upd hold.out
            rcases hr3 with h0 | ⟨ib, off, hx, hbl, hc⟩
            · omega
            cases hx
            have ci := hc p hp
            have ci2 := ci
            rw [Nat.zero_add] at ci2
            clear hc
            obtain ⟨x, hx⟩ : ∃ x, x = v p := ⟨_, rfl⟩
            rw [← hx] at ci ci2
            rw [← hx]
            clear hx
            have hPw := (HPR.out.keep (hst.upd.block A hfA'.out)).at p hp
            have hPw2 := hPw
            rw [← Nat.zero_add p] at hPw2
            go_wp2_with fail
            refine (held_at hAp.out hst.upd hst.fin hst.held (by omega)).mono ?_
            rintro e w4 ⟨rfl, rfl⟩
            go_wp2_with fail
            refine (held_len hst.fin hst.held ((p : Int) + 1) (by omega)).mono ?_
            rintro e w4 ⟨rfl, rfl⟩
            go_wp2_with fail
            go_roundw
            case rel => exact ⟨_, by omega, by go_num, hst⟩
            case measure => simp [intOf]; omega
          · have hpi : (mu : Int) + ((k : Int) - mu) % ((n : Int) - mu) = (p : Int) := by rw [hpp]; exact pos_int hmu (by omega)
            have Hpp : Hid (_ = _) := hpp
            clear hpp
            go_wp2_with fail
            refine hcall.mono ?_
            clear hcall hst
            rintro e w3 ⟨rfl, hst⟩
            have hr3 := hr1.upd hbel hst.upd hold.out
            rcases hr3 with h0 | ⟨ib, off, hx, hbl, hc⟩
            · omega
            cases hx
            have ci := hc p hp
            have ci2 := ci
            rw [Nat.zero_add] at ci2
            clear hc
            obtain ⟨x, hx⟩ : ∃ x, x = v p := ⟨_, rfl⟩
            rw [← hx] at ci ci2
            rw [← hx]
            clear hx
            have hPw := (HPR.out.keep (hst.upd.block A hfA'.out)).at p hp
            have hPw2 := hPw
            rw [← Nat.zero_add p] at hPw2
            go_wp2_with fail
            refine (held_at hAp.out hst.upd hst.fin hst.held (by omega)).mono ?_
            rintro e w4 ⟨rfl, rfl⟩
            go_wp2_with fail
            refine (held_len hst.fin hst.held (n : Int) (by omega)).mono ?_
            rintro e w4 ⟨rfl, rfl⟩
            go_wp2_with fail
            go_roundw
            case rel => exact ⟨_, by omega, by go_num, hst⟩
            case measure => simp [intOf]; omega
        · obtain rfl : k = 2 * M := by omega
          rw [decide_eq_true rfl] at hst
          rw [HM.out] at hst
          have hcall := hst.close hmu
          rw [← HM.out] at hcall
          go_wp2_with fail
          refine hcall.mono ?_
          clear hst hcall
          rintro e w3 ⟨rfl, hsh⟩
          go_wp2_with fail
          refine (openLen_any _ _ _ _ _ _ _ _ hsh.fin).mono ?_
          rintro e w4 ⟨rfl, rfl⟩
          go_wp2_with fail
          refine (insideLen_any _ _ _ _ _ _ _ 0 _ rfl _ hsh.fin hsh.ins).mono ?_
          rintro e w4 ⟨rfl, rfl⟩
          go_wp2_with fail
          go_loopw [27] (fun i wr => ∃ k : Nat, k ≤ n ∧ i = .int .i64 k ∧ wr = w4) (fun i _ => n - (intOf i).toNat)
          case atStart => exact ⟨0, Nat.zero_le _, rfl, by trivial⟩
          case round =>
            obtain ⟨k, hk, rfl, rfl⟩ := hrel
            by_cases hlt : k < n
            · have hPw := (HPR.out.keep (hsh.upd.block A hfA'.out)).at k hlt
              have hPw2 := hPw
              rw [← Nat.zero_add k] at hPw2
              go_wp2_with fail
              refine (held_at hAp.out hsh.upd hsh.fin hsh.held (by omega)).mono ?_
              rintro e w5 ⟨rfl, rfl⟩
              go_wp2_with fail
              go_roundw
              case rel => exact ⟨k + 1, by omega, by go_num, by trivial⟩
              case measure => simp [intOf]; omega
            · obtain rfl : k = n := by omega
              go_wp2_with fail
              refine (held_len hsh.fin hsh.held (k : Int) (by omega)).mono ?_
              rintro e w5 ⟨rfl, rfl⟩
              go_wp2_with fail
              go_ret
              exact ⟨rfl, hb1.trans ((hbel.trans (hsh.upd.below hold.out)).mono hb1.size)⟩

theorem floyd_law (x : Addr) (n cap mu : Nat) (v : Nat → Int) (ta : Bool) (w : World) (hr : Ints w (some x) n v) (hm : n ≤ maxLen) (hn : (n : Int) ≤ 65536) (hmu : mu < n) :
    Calls Try.prog 4 #[.slice (some x) n cap, .int .i64 mu, .bool ta] w fun e w' => e = .returned (.bool true) ∧ Below w.heap.size w w' := by
  obtain ⟨f1, f2, f3, f4, f5, f6⟩ := meet_facts hmu
  by_cases hlo : mu < 1
  · have hq : ((1 : Int) + ((n : Int) - mu) - 1) / ((n : Int) - mu) * ((n : Int) - mu) = (meet n mu : Int) := meet_int hmu 1 (by rw [if_pos hlo])
    cases ta
    · exact floyd_law_false_zero x n cap mu _ v w hr hm hn hmu hlo rfl f5 f4 hq
    · exact floyd_law_true_zero x n cap mu _ v w hr hm hn hmu hlo rfl f5 f4 hq
  · have hq := meet_int hmu mu (by rw [if_neg hlo])
    cases ta
    · exact floyd_law_false_more x n cap mu _ v w hr hm hn hmu (by omega) rfl f5 f4 hq
    · exact floyd_law_true_more x n cap mu _ v w hr hm hn hmu (by omega) rfl f5 f4 hq

set_option maxRecDepth 100000 in
set_option maxHeartbeats 3200000 in
theorem floyd_long (a : Option Addr) (n cap : Nat) (cy : Int) (ta : Bool) (w : World) (hm : n ≤ maxLen) (hn : ¬ (n : Int) ≤ 65536) :
    Calls Try.prog 4 #[.slice a n cap, .int .i64 cy, .bool ta] w fun e w' => e = .returned (.bool true) ∧ Below w.heap.size w w' := by
  have hm' := hm
  unfold maxLen at hm'
  go_enter Try.func4, Try.ntmps4
  go_wp2_with fail
  refine (zzBytes12_any _ _ _ _ _ _ hm).mono ?_
  rintro e w' ⟨b, rfl, rfl⟩
  cases b
  all_goals
    go_wp2_with fail
    go_ret
    exact ⟨rfl, Below.refl _ _⟩

set_option maxRecDepth 100000 in
set_option maxHeartbeats 3200000 in
theorem floyd_out (a : Option Addr) (n cap : Nat) (cy : Int) (ta : Bool) (w : World) (hm : n ≤ maxLen) (hn : (n : Int) ≤ 65536) (hc : cy < 0 ∨ (n : Int) ≤ cy) :
    Calls Try.prog 4 #[.slice a n cap, .int .i64 cy, .bool ta] w fun e w' => e = .returned (.bool true) ∧ Below w.heap.size w w' := by
  have hm' := hm
  unfold maxLen at hm'
  by_cases h0 : cy < 0
  all_goals
    go_enter Try.func4, Try.ntmps4
    go_wp2_with fail
    refine (zzBytes12_any _ _ _ _ _ _ hm).mono ?_
    rintro e w' ⟨b, rfl, rfl⟩
    cases b
    all_goals
      go_wp2_with fail
      go_ret
      exact ⟨rfl, Below.refl _ _⟩

theorem floyd_any (a : Option Addr) (n cap : Nat) (v : Nat → Int) (cy : Int) (ta : Bool) (w : World) (ha : a = none → n = 0) (hr : Ints w a n v) (hm : n ≤ maxLen) :
    Calls Try.prog 4 #[.slice a n cap, .int .i64 cy, .bool ta] w fun e w' => e = .returned (.bool true) ∧ Below w.heap.size w w' := by
  by_cases hn : (n : Int) ≤ 65536
  · by_cases hc : cy < 0 ∨ (n : Int) ≤ cy
    · exact floyd_out a n cap cy ta w hm hn hc
    · obtain ⟨mu, rfl⟩ : ∃ mu : Nat, cy = (mu : Int) := ⟨cy.toNat, by omega⟩
      cases a with
      | none => exact absurd (ha rfl) (by omega)
      | some x => exact floyd_law x n cap mu v ta w hr hm hn (by omega)
  · exact floyd_long a n cap cy ta w hm hn
end Go.Proofs.Qxb6604422a

/-
  Law 1 over a list.
-/
import Derived.Test.Qxb6604422aLists
namespace Go.Proofs.Qxb6604422a
open Go.RowKit

theorem S1.upd {w0 W : World} {b : Bk} {ta : Bool} {n P : Nat} {tl : Int} {v : Nat → Int} {k : Nat} {en : Bool} (h : S1 w0 W b ta n P tl v k en) : Upd b.all w0 W := (LSt.firm h).upd
theorem S1.fin {w0 W : World} {b : Bk} {ta : Bool} {n P : Nat} {tl : Int} {v : Nat → Int} {k : Nat} {en : Bool} (h : S1 w0 W b ta n P tl v k en) : Fin W b.F b.T b.H b.O b.c b.I 1 := (LSt.firm h).fin
theorem S1.ins {w0 W : World} {b : Bk} {ta : Bool} {n P : Nat} {tl : Int} {v : Nat → Int} {k : Nat} {en : Bool} (h : S1 w0 W b ta n P tl v k en) : MapIs W b.I [kp 32 P] := LSt.ins h
theorem S1.held {w0 W : World} {b : Bk} {ta : Bool} {n P : Nat} {tl : Int} {v : Nat → Int} {k : Nat} {en : Bool} (h : S1 w0 W b ta n P tl v k en) : MapIs W b.H ((found ta n P k).map (kp 32)) := LSt.held h

/-- How much is found. -/
theorem held_len {W : World} {b : Bk} {ol n P k : Nat} (hF : Fin W b.F b.T b.H b.O b.c b.I ol) (hH : MapIs W b.H ((found true n P k).map (kp 32))) (m : Int) (hm : ((min k n : Nat) : Int) = m) :
    Calls Try.prog 11 #[.pointer (some ⟨b.F, 0, none⟩)] W fun e w' => e = .returned (.int .i64 m) ∧ w' = W := by
  subst hm
  exact holdingLen_any _ _ _ _ _ _ _ (min k n) _ (found_maplen _ _ _) _ hF hH
theorem held_none {W : World} {b : Bk} {ol n P k : Nat} (hF : Fin W b.F b.T b.H b.O b.c b.I ol) (hH : MapIs W b.H ((found false n P k).map (kp 32))) :
    Calls Try.prog 11 #[.pointer (some ⟨b.F, 0, none⟩)] W fun e w' => e = .returned (.int .i64 0) ∧ w' = W :=
  holdingLen_any _ _ _ _ _ _ _ 0 _ rfl _ hF hH
/-- The pairs of the list lie apart from the finder. -/
def Apart (w0 : World) (b : Bk) (n P : Nat) : Prop := ∀ i, i < n → Plain w0 (P + i) ∧ P + i ∉ b.all
/-- What is found is held. -/
theorem held_at {w0 W : World} {b : Bk} {ol n P k i : Nat} (hA : Apart w0 b n P) (hU : Upd b.all w0 W) (hF : Fin W b.F b.T b.H b.O b.c b.I ol) (hH : MapIs W b.H ((found true n P k).map (kp 32))) (hi : i < min k n) :
    Calls Try.prog 10 #[.pointer (some ⟨b.F, 0, none⟩), .pointer (some ⟨P + i, 0, none⟩)] W fun e w' => e = .returned (.bool true) ∧ w' = W := by
  have hp : ∀ j, j < n → Plain W (P + j) := fun j hj => hU.plain (hA j hj).2 (hA j hj).1
  refine holds_any _ _ _ _ _ _ _ _ _ true (decide_eq_true (found_mem.2 hi)) _ hF hH (hp i (by omega)) ?_
  intro q hq
  obtain ⟨j, hj, rfl⟩ := found_from hq
  exact hp j hj
theorem apart_of {w' : World} {b : Bk} {n P : Nat} {v : Nat → Int} {lk : Nat → Value} (hQ : Prs w' P n v lk) (hf : ∀ j, j < n → P + j ∉ b.all) : Apart w' b n P := fun i hi => ⟨(hQ i hi).plain, hf i hi⟩

set_option maxRecDepth 100000 in
set_option maxHeartbeats 6400000 in
theorem list_law_false (x : Addr) (n cap : Nat) (v : Nat → Int) (tl : Int) (w : World) (hr : Ints w (some x) n v) (hm : n ≤ maxLen) (hn : (n : Int) ≤ 65536) (hn0 : 0 < n) :
    Calls Try.prog 3 #[.slice (some x) n cap, .int .i64 tl, .bool false, .bool false] w fun e w' => e = .returned (.bool true) ∧ Below w.heap.size w w' := by
  have hm' := hm
  unfold maxLen at hm'
  obtain ⟨i0, hi, hz0, hz1, hz2⟩ := info_parts info2
  have hnil := fun w => run_neq_slice_nil_any (P := Try.prog) w 22 2 (some x) n cap 0 0 Try.underlying22
  go_enter Try.func3, Try.ntmps3
  go_wp2_with fail
  refine (zzBytes5_any _ _ _ _ _ _ _ hm).mono ?_
  rintro e w' ⟨b, rfl, rfl⟩
  cases b
  · go_wp2_with fail
    go_ret
    exact ⟨rfl, Below.refl _ _⟩
  go_wp2_with (at_make; refine wpList_make_full _ rfl (.tmp 49) (.tmp 49) 22 rfl _ 2 i0 (.int .i64 0) 1 Try.underlying22 hi hz0 hz1 _ _ _ _ n rfl rfl rfl rfl (by rw [hz2]; omega) (by unfold maxLen; omega) (Nat.le_refl _) ?_; intro w1 hown hgrow)
  obtain ⟨hrow, hb1⟩ := IRow.of hown hgrow
  clear hown hgrow
  go_loopw [10] (fun i wr => ∃ (k : Nat) (t : Nat → Int), k ≤ n ∧ i = .int .i64 k ∧ IRow wr w'.heap.size n t ∧ Hid (∀ i, i < k → t i = v i) ∧ Below w'.heap.size w' wr) (fun i _ => n - (intOf i).toNat)
  case atStart => exact ⟨0, _, Nat.zero_le _, rfl, hrow, fun i hi => absurd hi (by omega), hb1⟩
  case round =>
    clear hrow hb1 hnil
    obtain ⟨k, t, hk, rfl, hR, hT, hB⟩ := hrel
    by_cases hlt : k < n
    · rcases hr with h0 | ⟨b, off, hx, hbl, hc⟩
      · omega
      cases hx
      have hv2 := (hB.cell (p := ⟨b, off + k, none⟩) hbl).trans (hc k hlt)
      have hv1 := hR.cell k hlt
      have hf := hR.free k
      clear hc
      go_wp2
      go_roundw
      case rel => exact ⟨k + 1, _, by omega, by go_num, hR.set _ _, copy_step hT.out, hB.setCell (Nat.le_refl _) _⟩
      case measure => simp [intOf]; omega
    · have hr1 : Ints wr (some ⟨w'.heap.size, 0, none⟩) n v := (hR.congr (fun i hi => hT.out i (by omega))).ints
      have hb1 : Below w'.heap.size w' wr := hB
      clear hR hT hB hr
      rename World => w1
      go_wp2_with fail
      refine (newList_any (some ⟨w'.heap.size, 0, none⟩) n n v tl (-1) false _ hr1 (by omega) hn0).mono ?_
      rintro e w2 ⟨F, T, H, O, c, I, S, P, A, rfl, hRd, hSea, hPR, hQ, hfA, hfar⟩
      obtain ⟨b, hb⟩ : ∃ b : Bk, b = ⟨F, T, H, O, c, I, S⟩ := ⟨_, rfl⟩
      have hFb : F = b.F := by rw [hb]
      have hst : S1 w2 w2 b false n P tl v 0 false := by rw [hb]; exact S1.start hRd hSea hQ hfar hn0
      have hold : Hid (∀ k, k ∈ b.all → w1.heap.size ≤ k) := by rw [hb]; exact hRd.old
      have hbel : Below w1.heap.size w1 w2 := hRd.below
      have hAp : Hid (Apart w2 b n P) := by rw [hb]; exact apart_of hQ hfar
      have hfA' : Hid (A ∉ b.all) := by rw [hb]; exact hfA
      have HPR : Hid (PRow w2 A n n P) := hPR
      clear hb hRd hSea hQ hfA hfar hPR
      subst hFb
      go_wp2_with fail
      go_loopw [16] (fun i wr => ∃ k : Nat, k ≤ n + 1 ∧ i = .int .i64 k ∧ S1 w2 wr b false n P tl v (min k n) (decide (n < k))) (fun i _ => n + 1 - (intOf i).toNat)
      case atStart => exact ⟨0, Nat.zero_le _, rfl, by rw [Nat.zero_min]; exact hst⟩
      case round =>
        clear hst
        obtain ⟨k, hk, rfl, hst⟩ := hrel
        by_cases hlt : k < n
        · rw [Nat.min_eq_left (by omega), decide_eq_false (by omega)] at hst
          go_wp2_with fail
          refine (hst.next hlt (by omega)).mono ?_
          clear hst
          rintro e w3 ⟨rfl, hst⟩
          have hr3 := hr1.upd hbel hst.upd hold.out
          rcases hr3 with h0 | ⟨ib, off, hx, hbl, hc⟩
          · omega
          cases hx
          have ci := hc k hlt
          have ci2 := ci
          rw [Nat.zero_add] at ci2
          clear hc
          obtain ⟨x, hx⟩ : ∃ x, x = v k := ⟨_, rfl⟩
          rw [← hx] at ci ci2
          rw [← hx]
          clear hx
          go_wp2_with fail
          refine (openLen_any _ _ _ _ _ _ _ _ hst.fin).mono ?_
          rintro e w4 ⟨rfl, rfl⟩
          go_wp2_with fail
          refine (insideLen_any _ _ _ _ _ _ _ 1 _ rfl _ hst.fin hst.ins).mono ?_
          rintro e w4 ⟨rfl, rfl⟩
          go_wp2_with fail
          refine (held_none hst.fin hst.held).mono ?_
          rintro e w4 ⟨rfl, rfl⟩
          go_wp2_with fail
          go_roundw
          case rel => exact ⟨k + 1, by omega, by go_num, by rw [Nat.min_eq_left (by omega), decide_eq_false (by omega)]; exact hst⟩
          case measure => simp [intOf]; omega
        by_cases hle : k = n
        · subst hle
          rw [Nat.min_self, decide_eq_false (by omega)] at hst
          go_wp2_with fail
          refine hst.tail.mono ?_
          clear hst
          rintro e w3 ⟨rfl, hst⟩
          go_wp2_with fail
          refine (openLen_any _ _ _ _ _ _ _ _ hst.fin).mono ?_
          rintro e w4 ⟨rfl, rfl⟩
          go_wp2_with fail
          refine (insideLen_any _ _ _ _ _ _ _ 1 _ rfl _ hst.fin hst.ins).mono ?_
          rintro e w4 ⟨rfl, rfl⟩
          go_wp2_with fail
          refine (held_none hst.fin hst.held).mono ?_
          rintro e w4 ⟨rfl, rfl⟩
          go_wp2_with fail
          go_roundw
          case rel => exact ⟨k + 1, by omega, by go_num, by rw [Nat.min_eq_right (by omega), decide_eq_true (by omega)]; exact hst⟩
          case measure => simp [intOf]
        · obtain rfl : k = n + 1 := by omega
          rw [Nat.min_eq_right (by omega), decide_eq_true (by omega)] at hst
          go_wp2_with fail
          refine (hst.close hn0).mono ?_
          clear hst
          rintro e w3 ⟨rfl, hsh⟩
          go_wp2_with fail
          refine (openLen_any _ _ _ _ _ _ _ _ hsh.fin).mono ?_
          rintro e w4 ⟨rfl, rfl⟩
          go_wp2_with fail
          refine (insideLen_any _ _ _ _ _ _ _ 0 _ rfl _ hsh.fin hsh.ins).mono ?_
          rintro e w4 ⟨rfl, rfl⟩
          go_wp2_with fail
          refine (held_none hsh.fin hsh.held).mono ?_
          rintro e w5 ⟨rfl, rfl⟩
          go_wp2_with fail
          refine (zz_none _ (fun x => x = w5) _ (next_none _ _ _ _ _ _ _ hsh.fin)).mono ?_
          rintro e w6 ⟨rfl, rfl⟩
          go_wp2_with fail
          go_ret
          exact ⟨rfl, hb1.trans ((hbel.trans (hsh.upd.below hold.out)).mono hb1.size)⟩

set_option maxRecDepth 100000 in
set_option maxHeartbeats 6400000 in
theorem list_law_true (x : Addr) (n cap : Nat) (v : Nat → Int) (tl : Int) (w : World) (hr : Ints w (some x) n v) (hm : n ≤ maxLen) (hn : (n : Int) ≤ 65536) (hn0 : 0 < n) :
    Calls Try.prog 3 #[.slice (some x) n cap, .int .i64 tl, .bool false, .bool true] w fun e w' => e = .returned (.bool true) ∧ Below w.heap.size w w' := by
  have hm' := hm
  unfold maxLen at hm'
  obtain ⟨i0, hi, hz0, hz1, hz2⟩ := info_parts info2
  have hnil := fun w => run_neq_slice_nil_any (P := Try.prog) w 22 2 (some x) n cap 0 0 Try.underlying22
  go_enter Try.func3, Try.ntmps3
  go_wp2_with fail
  refine (zzBytes5_any _ _ _ _ _ _ _ hm).mono ?_
  rintro e w' ⟨b, rfl, rfl⟩
  cases b
  · go_wp2_with fail
    go_ret
    exact ⟨rfl, Below.refl _ _⟩
  go_wp2_with (at_make; refine wpList_make_full _ rfl (.tmp 49) (.tmp 49) 22 rfl _ 2 i0 (.int .i64 0) 1 Try.underlying22 hi hz0 hz1 _ _ _ _ n rfl rfl rfl rfl (by rw [hz2]; omega) (by unfold maxLen; omega) (Nat.le_refl _) ?_; intro w1 hown hgrow)
  obtain ⟨hrow, hb1⟩ := IRow.of hown hgrow
  clear hown hgrow
  go_loopw [10] (fun i wr => ∃ (k : Nat) (t : Nat → Int), k ≤ n ∧ i = .int .i64 k ∧ IRow wr w'.heap.size n t ∧ Hid (∀ i, i < k → t i = v i) ∧ Below w'.heap.size w' wr) (fun i _ => n - (intOf i).toNat)
  case atStart => exact ⟨0, _, Nat.zero_le _, rfl, hrow, fun i hi => absurd hi (by omega), hb1⟩
  case round =>
    clear hrow hb1 hnil
    obtain ⟨k, t, hk, rfl, hR, hT, hB⟩ := hrel
    by_cases hlt : k < n
    · rcases hr with h0 | ⟨b, off, hx, hbl, hc⟩
      · omega
      cases hx
      have hv2 := (hB.cell (p := ⟨b, off + k, none⟩) hbl).trans (hc k hlt)
      have hv1 := hR.cell k hlt
      have hf := hR.free k
      clear hc
      go_wp2
      go_roundw
      case rel => exact ⟨k + 1, _, by omega, by go_num, hR.set _ _, copy_step hT.out, hB.setCell (Nat.le_refl _) _⟩
      case measure => simp [intOf]; omega
    · have hr1 : Ints wr (some ⟨w'.heap.size, 0, none⟩) n v := (hR.congr (fun i hi => hT.out i (by omega))).ints
      have hb1 : Below w'.heap.size w' wr := hB
      clear hR hT hB hr
      rename World => w1
      go_wp2_with fail
      refine (newList_any (some ⟨w'.heap.size, 0, none⟩) n n v tl (-1) true _ hr1 (by omega) hn0).mono ?_
      rintro e w2 ⟨F, T, H, O, c, I, S, P, A, rfl, hRd, hSea, hPR, hQ, hfA, hfar⟩
      obtain ⟨b, hb⟩ : ∃ b : Bk, b = ⟨F, T, H, O, c, I, S⟩ := ⟨_, rfl⟩
      have hFb : F = b.F := by rw [hb]
      have hst : S1 w2 w2 b true n P tl v 0 false := by rw [hb]; exact S1.start hRd hSea hQ hfar hn0
      have hold : Hid (∀ k, k ∈ b.all → w1.heap.size ≤ k) := by rw [hb]; exact hRd.old
      have hbel : Below w1.heap.size w1 w2 := hRd.below
      have hAp : Hid (Apart w2 b n P) := by rw [hb]; exact apart_of hQ hfar
      have hfA' : Hid (A ∉ b.all) := by rw [hb]; exact hfA
      have HPR : Hid (PRow w2 A n n P) := hPR
      clear hb hRd hSea hQ hfA hfar hPR
      subst hFb
      go_wp2_with fail
      go_loopw [16] (fun i wr => ∃ k : Nat, k ≤ n + 1 ∧ i = .int .i64 k ∧ S1 w2 wr b true n P tl v (min k n) (decide (n < k))) (fun i _ => n + 1 - (intOf i).toNat)
      case atStart => exact ⟨0, Nat.zero_le _, rfl, by rw [Nat.zero_min]; exact hst⟩
      case round =>
        clear hst
        obtain ⟨k, hk, rfl, hst⟩ := hrel
        by_cases hlt : k < n
        · rw [Nat.min_eq_left (by omega), decide_eq_false (by omega)] at hst
          go_wp2_with fail
          refine (hst.next hlt (by omega)).mono ?_
          clear hst
          rintro e w3 ⟨rfl, hst⟩
          have hr3 := hr1.upd hbel hst.upd hold.out
          rcases hr3 with h0 | ⟨ib, off, hx, hbl, hc⟩
          · omega
          cases hx
          have ci := hc k hlt
          have ci2 := ci
          rw [Nat.zero_add] at ci2
          clear hc
          obtain ⟨x, hx⟩ : ∃ x, x = v k := ⟨_, rfl⟩
          rw [← hx] at ci ci2
          rw [← hx]
          clear hx
          have hPw := (HPR.out.keep (hst.upd.block A hfA'.out)).at k hlt
          have hPw2 := hPw
          rw [← Nat.zero_add k] at hPw2
          go_wp2_with fail
          refine (openLen_any _ _ _ _ _ _ _ _ hst.fin).mono ?_
          rintro e w4 ⟨rfl, rfl⟩
          go_wp2_with fail
          refine (insideLen_any _ _ _ _ _ _ _ 1 _ rfl _ hst.fin hst.ins).mono ?_
          rintro e w4 ⟨rfl, rfl⟩
          go_wp2_with fail
          refine (held_at hAp.out hst.upd hst.fin hst.held (by omega)).mono ?_
          rintro e w4 ⟨rfl, rfl⟩
          go_wp2_with fail
          refine (held_len hst.fin hst.held ((k : Int) + 1) (by omega)).mono ?_
          rintro e w4 ⟨rfl, rfl⟩
          go_wp2_with fail
          go_roundw
          case rel => exact ⟨k + 1, by omega, by go_num, by rw [Nat.min_eq_left (by omega), decide_eq_false (by omega)]; exact hst⟩
          case measure => simp [intOf]; omega
        by_cases hle : k = n
        · subst hle
          rw [Nat.min_self, decide_eq_false (by omega)] at hst
          go_wp2_with fail
          refine hst.tail.mono ?_
          clear hst
          rintro e w3 ⟨rfl, hst⟩
          go_wp2_with fail
          refine (openLen_any _ _ _ _ _ _ _ _ hst.fin).mono ?_
          rintro e w4 ⟨rfl, rfl⟩
          go_wp2_with fail
          refine (insideLen_any _ _ _ _ _ _ _ 1 _ rfl _ hst.fin hst.ins).mono ?_
          rintro e w4 ⟨rfl, rfl⟩
          go_wp2_with fail
          refine (held_len hst.fin hst.held (k : Int) (by omega)).mono ?_
          rintro e w4 ⟨rfl, rfl⟩
          go_wp2_with fail
          go_roundw
          case rel => exact ⟨k + 1, by omega, by go_num, by rw [Nat.min_eq_right (by omega), decide_eq_true (by omega)]; exact hst⟩
          case measure => simp [intOf]
        · obtain rfl : k = n + 1 := by omega
          rw [Nat.min_eq_right (by omega), decide_eq_true (by omega)] at hst
          go_wp2_with fail
          refine (hst.close hn0).mono ?_
          clear hst
          rintro e w3 ⟨rfl, hsh⟩
          go_wp2_with fail
          refine (openLen_any _ _ _ _ _ _ _ _ hsh.fin).mono ?_
          rintro e w4 ⟨rfl, rfl⟩
          go_wp2_with fail
          refine (insideLen_any _ _ _ _ _ _ _ 0 _ rfl _ hsh.fin hsh.ins).mono ?_
          rintro e w4 ⟨rfl, rfl⟩
          go_wp2_with fail
          go_loopw [26] (fun i wr => ∃ k : Nat, k ≤ n ∧ i = .int .i64 k ∧ wr = w4) (fun i _ => n - (intOf i).toNat)
          case atStart => exact ⟨0, Nat.zero_le _, rfl, by trivial⟩
          case round =>
            obtain ⟨k, hk, rfl, rfl⟩ := hrel
            by_cases hlt : k < n
            · have hPw := (HPR.out.keep (hsh.upd.block A hfA'.out)).at k hlt
              have hPw2 := hPw
              rw [← Nat.zero_add k] at hPw2
              go_wp2_with fail
              refine (held_at hAp.out hsh.upd hsh.fin hsh.held (by omega)).mono ?_
              rintro e w5 ⟨rfl, rfl⟩
              go_wp2_with fail
              go_roundw
              case rel => exact ⟨k + 1, by omega, by go_num, by trivial⟩
              case measure => simp [intOf]; omega
            · obtain rfl : k = n := by omega
              go_wp2_with fail
              refine (held_len hsh.fin hsh.held (k : Int) (by omega)).mono ?_
              rintro e w5 ⟨rfl, rfl⟩
              go_wp2_with fail
              refine (zz_none _ (fun x => x = w5) _ (next_none _ _ _ _ _ _ _ hsh.fin)).mono ?_
              rintro e w6 ⟨rfl, rfl⟩
              go_wp2_with fail
              go_ret
              exact ⟨rfl, hb1.trans ((hbel.trans (hsh.upd.below hold.out)).mono hb1.size)⟩

theorem list_law (x : Addr) (n cap : Nat) (v : Nat → Int) (tl : Int) (ta : Bool) (w : World) (hr : Ints w (some x) n v) (hm : n ≤ maxLen) (hn : (n : Int) ≤ 65536) (hn0 : 0 < n) :
    Calls Try.prog 3 #[.slice (some x) n cap, .int .i64 tl, .bool false, .bool ta] w fun e w' => e = .returned (.bool true) ∧ Below w.heap.size w w' := by
  cases ta
  · exact list_law_false x n cap v tl w hr hm hn hn0
  · exact list_law_true x n cap v tl w hr hm hn hn0

end Go.Proofs.Qxb6604422a

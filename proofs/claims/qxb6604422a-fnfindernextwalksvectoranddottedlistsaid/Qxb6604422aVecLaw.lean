/-
  Law 1 over a vector.
-/
import Derived.Test.Qxb6604422aCopy
namespace Go.Proofs.Qxb6604422a
open Go.RowKit

set_option maxRecDepth 100000 in
set_option maxHeartbeats 6400000 in
theorem vec_law_false_none (cap : Nat) (v : Nat → Int) (tl : Int) (w : World) :
    Calls Try.prog 3 #[.slice none 0 cap, .int .i64 tl, .bool true, .bool false] w fun e w' => e = .returned (.bool true) ∧ Below w.heap.size w w' := by
  have hm : 0 ≤ maxLen := Nat.zero_le _
  have hnil := fun w => run_neq_slice_nil_any (P := Try.prog) w 22 2 none 0 cap 0 0 Try.underlying22
  go_enter Try.func3, Try.ntmps3
  go_wp2_with fail
  refine (zzBytes5_any _ _ _ _ _ _ _ hm).mono ?_
  rintro e w' ⟨b, rfl, rfl⟩
  cases b
  · go_wp2_with fail
    go_ret
    exact ⟨rfl, Below.refl _ _⟩
  have hr1 : Ints w' none 0 v := .inl rfl
  clear hnil
  go_wp2_with fail
  refine (newVec_any none 0 cap v tl (-1) false _ hr1 (by omega)).mono ?_
  rintro e w2 ⟨F, T, H, O, c, I, S, V, A, rfl, hRd, hSea, hVec, hRow, hfV, hfA⟩
  obtain ⟨b, hb⟩ : ∃ b : Bk, b = ⟨F, T, H, O, c, I, S⟩ := ⟨_, rfl⟩
  have hFb : F = b.F := by rw [hb]
  have hst : VSt w2 w2 b false V A 0 0 v := by rw [hb]; exact ⟨hRd.fixed, hRd.ins, hRd.held, hSea, hVec, hRow, hfV, hfA⟩
  have hold : Hid (∀ k, k ∈ b.all → w'.heap.size ≤ k) := by rw [hb]; exact hRd.old
  have hbel : Below w'.heap.size w' w2 := hRd.below
  clear hb hRd hSea hVec hRow hfV hfA
  subst hFb
  go_wp2_with fail
  go_loopw [16] (fun i wr => ∃ k : Nat, k ≤ 0 ∧ i = .int .i64 k ∧ VSt w2 wr b false V A 0 k v) (fun i _ => 0 - (intOf i).toNat)
  case atStart => exact ⟨0, Nat.zero_le _, rfl, hst⟩
  case round =>
    clear hst
    obtain ⟨k, hk, rfl, hst⟩ := hrel
    by_cases hlt : k < 0
    · exact absurd hlt (Nat.not_lt_zero _)
    · obtain rfl : k = 0 := by omega
      go_wp2_with fail
      refine (vclose hst).mono ?_
      clear hst
      rintro e w3 ⟨rfl, hsh⟩
      go_wp2_with fail
      refine (openLen_any _ _ _ _ _ _ _ _ hsh.fin).mono ?_
      rintro e w4 ⟨rfl, rfl⟩
      go_wp2_with fail
      refine (insideLen_any _ _ _ _ _ _ _ 0 _ rfl _ hsh.fin hsh.ins).mono ?_
      rintro e w4 ⟨rfl, rfl⟩
      go_wp2_with fail
      refine (holdingLen_any _ _ _ _ _ _ _ 0 _ rfl _ hsh.fin hsh.held).mono ?_
      rintro e w4 ⟨rfl, rfl⟩
      go_wp2_with fail
      refine (zz_none _ (fun x => x = w4) _ (next_none _ _ _ _ _ _ _ hsh.fin)).mono ?_
      rintro e w5 ⟨rfl, rfl⟩
      go_wp2_with fail
      go_ret
      exact ⟨rfl, hbel.trans (hsh.upd.below hold.out)⟩

set_option maxRecDepth 100000 in
set_option maxHeartbeats 6400000 in
theorem vec_law_false_some (x : Addr) (n cap : Nat) (v : Nat → Int) (tl : Int) (w : World) (hr : Ints w (some x) n v) (hm : n ≤ maxLen) (hn : (n : Int) ≤ 65536) :
    Calls Try.prog 3 #[.slice (some x) n cap, .int .i64 tl, .bool true, .bool false] w fun e w' => e = .returned (.bool true) ∧ Below w.heap.size w w' := by
  have hm' := hm
  unfold maxLen at hm'
  obtain ⟨i0, hi, hz0, hz1, hz2⟩ := info_parts info2
  have hnil := fun w => run_neq_slice_nil_any (P := Try.prog) w 22 2 (some x) n cap 0 0 Try.underlying22
  go_enter Try.func3, Try.ntmps3
  go_wp2_with fail
  refine (zzBytes5_any _ _ _ _ _ _ _ hm).mono ?_
  rintro e w' ⟨b, rfl, rfl⟩
  cases b
  · go_wp2_with fail
    go_ret
    exact ⟨rfl, Below.refl _ _⟩
  go_wp2_with (at_make; refine wpList_make_full _ rfl (.tmp 49) (.tmp 49) 22 rfl _ 2 i0 (.int .i64 0) 1 Try.underlying22 hi hz0 hz1 _ _ _ _ n rfl rfl rfl rfl (by rw [hz2]; omega) (by unfold maxLen; omega) (Nat.le_refl _) ?_; intro w1 hown hgrow)
  obtain ⟨hrow, hb1⟩ := IRow.of hown hgrow
  clear hown hgrow
  go_loopw [10] (fun i wr => ∃ (k : Nat) (t : Nat → Int), k ≤ n ∧ i = .int .i64 k ∧ IRow wr w'.heap.size n t ∧ Hid (∀ i, i < k → t i = v i) ∧ Below w'.heap.size w' wr) (fun i _ => n - (intOf i).toNat)
  case atStart => exact ⟨0, _, Nat.zero_le _, rfl, hrow, fun i hi => absurd hi (by omega), hb1⟩
  case round =>
    clear hrow hb1 hnil
    obtain ⟨k, t, hk, rfl, hR, hT, hB⟩ := hrel
    by_cases hlt : k < n
    · rcases hr with h0 | ⟨b, off, hx, hbl, hc⟩
      · omega
      cases hx
      have hv2 := (hB.cell (p := ⟨b, off + k, none⟩) hbl).trans (hc k hlt)
      have hv1 := hR.cell k hlt
      have hf := hR.free k
      clear hc
      go_wp2
      go_roundw
      case rel => exact ⟨k + 1, _, by omega, by go_num, hR.set _ _, copy_step hT.out, hB.setCell (Nat.le_refl _) _⟩
      case measure => simp [intOf]; omega
    · have hr1 : Ints wr (some ⟨w'.heap.size, 0, none⟩) n v := (hR.congr (fun i hi => hT.out i (by omega))).ints
      have hb1 : Below w'.heap.size w' wr := hB
      clear hR hT hB hr
      rename World => w1
      go_wp2_with fail
      refine (newVec_any (some ⟨w'.heap.size, 0, none⟩) n n v tl (-1) false _ hr1 (by omega)).mono ?_
      rintro e w2 ⟨F, T, H, O, c, I, S, V, A, rfl, hRd, hSea, hVec, hRow, hfV, hfA⟩
      obtain ⟨b, hb⟩ : ∃ b : Bk, b = ⟨F, T, H, O, c, I, S⟩ := ⟨_, rfl⟩
      have hFb : F = b.F := by rw [hb]
      have hst : VSt w2 w2 b false V A n 0 v := by rw [hb]; exact ⟨hRd.fixed, hRd.ins, hRd.held, hSea, hVec, hRow, hfV, hfA⟩
      have hold : Hid (∀ k, k ∈ b.all → w1.heap.size ≤ k) := by rw [hb]; exact hRd.old
      have hbel : Below w1.heap.size w1 w2 := hRd.below
      clear hb hRd hSea hVec hRow hfV hfA
      subst hFb
      go_wp2_with fail
      go_loopw [16] (fun i wr => ∃ k : Nat, k ≤ n ∧ i = .int .i64 k ∧ VSt w2 wr b false V A n k v) (fun i _ => n - (intOf i).toNat)
      case atStart => exact ⟨0, Nat.zero_le _, rfl, hst⟩
      case round =>
        clear hst
        obtain ⟨k, hk, rfl, hst⟩ := hrel
        by_cases hlt : k < n
        · go_wp2_with fail
          refine (vnext hst hlt (by omega)).mono ?_
          clear hst
          rintro e w3 ⟨rfl, hst⟩
          have hr3 := hr1.upd hbel hst.firm.upd hold.out
          rcases hr3 with h0 | ⟨ib, off, hx, hbl, hc⟩
          · omega
          cases hx
          have ci := hc k hlt
          have ci2 := ci
          rw [Nat.zero_add] at ci2
          clear hc
          obtain ⟨x, hx⟩ : ∃ x, x = v k := ⟨_, rfl⟩
          rw [← hx] at ci ci2
          rw [← hx]
          clear hx
          go_wp2_with fail
          refine (openLen_any _ _ _ _ _ _ _ _ hst.firm.fin).mono ?_
          rintro e w4 ⟨rfl, rfl⟩
          go_wp2_with fail
          refine (insideLen_any _ _ _ _ _ _ _ 1 _ rfl _ hst.firm.fin hst.ins).mono ?_
          rintro e w4 ⟨rfl, rfl⟩
          go_wp2_with fail
          refine (holdingLen_any _ _ _ _ _ _ _ 0 _ rfl _ hst.firm.fin hst.held).mono ?_
          rintro e w4 ⟨rfl, rfl⟩
          go_wp2_with fail
          go_roundw
          case rel => exact ⟨k + 1, by omega, by go_num, hst⟩
          case measure => simp [intOf]; omega
        · obtain rfl : k = n := by omega
          go_wp2_with fail
          refine (vclose hst).mono ?_
          clear hst
          rintro e w3 ⟨rfl, hsh⟩
          go_wp2_with fail
          refine (openLen_any _ _ _ _ _ _ _ _ hsh.fin).mono ?_
          rintro e w4 ⟨rfl, rfl⟩
          go_wp2_with fail
          refine (insideLen_any _ _ _ _ _ _ _ 0 _ rfl _ hsh.fin hsh.ins).mono ?_
          rintro e w4 ⟨rfl, rfl⟩
          go_wp2_with fail
          refine (holdingLen_any _ _ _ _ _ _ _ 0 _ rfl _ hsh.fin hsh.held).mono ?_
          rintro e w4 ⟨rfl, rfl⟩
          go_wp2_with fail
          refine (zz_none _ (fun x => x = w4) _ (next_none _ _ _ _ _ _ _ hsh.fin)).mono ?_
          rintro e w5 ⟨rfl, rfl⟩
          go_wp2_with fail
          go_ret
          exact ⟨rfl, hb1.trans ((hbel.trans (hsh.upd.below hold.out)).mono hb1.size)⟩

set_option maxRecDepth 100000 in
set_option maxHeartbeats 6400000 in
theorem vec_law_true_none (cap : Nat) (v : Nat → Int) (tl : Int) (w : World) :
    Calls Try.prog 3 #[.slice none 0 cap, .int .i64 tl, .bool true, .bool true] w fun e w' => e = .returned (.bool true) ∧ Below w.heap.size w w' := by
  have hm : 0 ≤ maxLen := Nat.zero_le _
  have hnil := fun w => run_neq_slice_nil_any (P := Try.prog) w 22 2 none 0 cap 0 0 Try.underlying22
  go_enter Try.func3, Try.ntmps3
  go_wp2_with fail
  refine (zzBytes5_any _ _ _ _ _ _ _ hm).mono ?_
  rintro e w' ⟨b, rfl, rfl⟩
  cases b
  · go_wp2_with fail
    go_ret
    exact ⟨rfl, Below.refl _ _⟩
  have hr1 : Ints w' none 0 v := .inl rfl
  clear hnil
  go_wp2_with fail
  refine (newVec_any none 0 cap v tl (-1) true _ hr1 (by omega)).mono ?_
  rintro e w2 ⟨F, T, H, O, c, I, S, V, A, rfl, hRd, hSea, hVec, hRow, hfV, hfA⟩
  obtain ⟨b, hb⟩ : ∃ b : Bk, b = ⟨F, T, H, O, c, I, S⟩ := ⟨_, rfl⟩
  have hFb : F = b.F := by rw [hb]
  have hst : VSt w2 w2 b true V A 0 0 v := by rw [hb]; exact ⟨hRd.fixed, hRd.ins, hRd.held, hSea, hVec, hRow, hfV, hfA⟩
  have hold : Hid (∀ k, k ∈ b.all → w'.heap.size ≤ k) := by rw [hb]; exact hRd.old
  have hbel : Below w'.heap.size w' w2 := hRd.below
  clear hb hRd hSea hVec hRow hfV hfA
  subst hFb
  go_wp2_with fail
  go_loopw [16] (fun i wr => ∃ k : Nat, k ≤ 0 ∧ i = .int .i64 k ∧ VSt w2 wr b true V A 0 k v) (fun i _ => 0 - (intOf i).toNat)
  case atStart => exact ⟨0, Nat.zero_le _, rfl, hst⟩
  case round =>
    clear hst
    obtain ⟨k, hk, rfl, hst⟩ := hrel
    by_cases hlt : k < 0
    · exact absurd hlt (Nat.not_lt_zero _)
    · obtain rfl : k = 0 := by omega
      go_wp2_with fail
      refine (vclose hst).mono ?_
      clear hst
      rintro e w3 ⟨rfl, hsh⟩
      go_wp2_with fail
      refine (openLen_any _ _ _ _ _ _ _ _ hsh.fin).mono ?_
      rintro e w4 ⟨rfl, rfl⟩
      go_wp2_with fail
      refine (insideLen_any _ _ _ _ _ _ _ 0 _ rfl _ hsh.fin hsh.ins).mono ?_
      rintro e w4 ⟨rfl, rfl⟩
      go_wp2_with fail
      refine (holdingLen_any _ _ _ _ _ _ _ 0 _ rfl _ hsh.fin hsh.held).mono ?_
      rintro e w4 ⟨rfl, rfl⟩
      go_wp2_with fail
      refine (zz_none _ (fun x => x = w4) _ (next_none _ _ _ _ _ _ _ hsh.fin)).mono ?_
      rintro e w5 ⟨rfl, rfl⟩
      go_wp2_with fail
      go_ret
      exact ⟨rfl, hbel.trans (hsh.upd.below hold.out)⟩

set_option maxRecDepth 100000 in
set_option maxHeartbeats 6400000 in
theorem vec_law_true_some (x : Addr) (n cap : Nat) (v : Nat → Int) (tl : Int) (w : World) (hr : Ints w (some x) n v) (hm : n ≤ maxLen) (hn : (n : Int) ≤ 65536) :
    Calls Try.prog 3 #[.slice (some x) n cap, .int .i64 tl, .bool true, .bool true] w fun e w' => e = .returned (.bool true) ∧ Below w.heap.size w w' := by
  have hm' := hm
  unfold maxLen at hm'
  obtain ⟨i0, hi, hz0, hz1, hz2⟩ := info_parts info2
  have hnil := fun w => run_neq_slice_nil_any (P := Try.prog) w 22 2 (some x) n cap 0 0 Try.underlying22
  go_enter Try.func3, Try.ntmps3
  go_wp2_with fail
  refine (zzBytes5_any _ _ _ _ _ _ _ hm).mono ?_
  rintro e w' ⟨b, rfl, rfl⟩
  cases b
  · go_wp2_with fail
    go_ret
    exact ⟨rfl, Below.refl _ _⟩
  go_wp2_with (at_make; refine wpList_make_full _ rfl (.tmp 49) (.tmp 49) 22 rfl _ 2 i0 (.int .i64 0) 1 Try.underlying22 hi hz0 hz1 _ _ _ _ n rfl rfl rfl rfl (by rw [hz2]; omega) (by unfold maxLen; omega) (Nat.le_refl _) ?_; intro w1 hown hgrow)
  obtain ⟨hrow, hb1⟩ := IRow.of hown hgrow
  clear hown hgrow
  go_loopw [10] (fun i wr => ∃ (k : Nat) (t : Nat → Int), k ≤ n ∧ i = .int .i64 k ∧ IRow wr w'.heap.size n t ∧ Hid (∀ i, i < k → t i = v i) ∧ Below w'.heap.size w' wr) (fun i _ => n - (intOf i).toNat)
  case atStart => exact ⟨0, _, Nat.zero_le _, rfl, hrow, fun i hi => absurd hi (by omega), hb1⟩
  case round =>
    clear hrow hb1 hnil
    obtain ⟨k, t, hk, rfl, hR, hT, hB⟩ := hrel
    by_cases hlt : k < n
    · rcases hr with h0 | ⟨b, off, hx, hbl, hc⟩
      · omega
      cases hx
      have hv2 := (hB.cell (p := ⟨b, off + k, none⟩) hbl).trans (hc k hlt)
      have hv1 := hR.cell k hlt
      have hf := hR.free k
      clear hc
      go_wp2
      go_roundw
      case rel => exact ⟨k + 1, _, by omega, by go_num, hR.set _ _, copy_step hT.out, hB.setCell (Nat.le_refl _) _⟩
      case measure => simp [intOf]; omega
    · have hr1 : Ints wr (some ⟨w'.heap.size, 0, none⟩) n v := (hR.congr (fun i hi => hT.out i (by omega))).ints
      have hb1 : Below w'.heap.size w' wr := hB
      clear hR hT hB hr
      rename World => w1
      go_wp2_with fail
      refine (newVec_any (some ⟨w'.heap.size, 0, none⟩) n n v tl (-1) true _ hr1 (by omega)).mono ?_
      rintro e w2 ⟨F, T, H, O, c, I, S, V, A, rfl, hRd, hSea, hVec, hRow, hfV, hfA⟩
      obtain ⟨b, hb⟩ : ∃ b : Bk, b = ⟨F, T, H, O, c, I, S⟩ := ⟨_, rfl⟩
      have hFb : F = b.F := by rw [hb]
      have hst : VSt w2 w2 b true V A n 0 v := by rw [hb]; exact ⟨hRd.fixed, hRd.ins, hRd.held, hSea, hVec, hRow, hfV, hfA⟩
      have hold : Hid (∀ k, k ∈ b.all → w1.heap.size ≤ k) := by rw [hb]; exact hRd.old
      have hbel : Below w1.heap.size w1 w2 := hRd.below
      clear hb hRd hSea hVec hRow hfV hfA
      subst hFb
      go_wp2_with fail
      go_loopw [16] (fun i wr => ∃ k : Nat, k ≤ n ∧ i = .int .i64 k ∧ VSt w2 wr b true V A n k v) (fun i _ => n - (intOf i).toNat)
      case atStart => exact ⟨0, Nat.zero_le _, rfl, hst⟩
      case round =>
        clear hst
        obtain ⟨k, hk, rfl, hst⟩ := hrel
        by_cases hlt : k < n
        · go_wp2_with fail
          refine (vnext hst hlt (by omega)).mono ?_
          clear hst
          rintro e w3 ⟨rfl, hst⟩
          have hr3 := hr1.upd hbel hst.firm.upd hold.out
          rcases hr3 with h0 | ⟨ib, off, hx, hbl, hc⟩
          · omega
          cases hx
          have ci := hc k hlt
          have ci2 := ci
          rw [Nat.zero_add] at ci2
          clear hc
          obtain ⟨x, hx⟩ : ∃ x, x = v k := ⟨_, rfl⟩
          rw [← hx] at ci ci2
          rw [← hx]
          clear hx
          go_wp2_with fail
          refine (openLen_any _ _ _ _ _ _ _ _ hst.firm.fin).mono ?_
          rintro e w4 ⟨rfl, rfl⟩
          go_wp2_with fail
          refine (insideLen_any _ _ _ _ _ _ _ 1 _ rfl _ hst.firm.fin hst.ins).mono ?_
          rintro e w4 ⟨rfl, rfl⟩
          go_wp2_with fail
          refine (holdingLen_any _ _ _ _ _ _ _ 0 _ rfl _ hst.firm.fin hst.held).mono ?_
          rintro e w4 ⟨rfl, rfl⟩
          go_wp2_with fail
          go_roundw
          case rel => exact ⟨k + 1, by omega, by go_num, hst⟩
          case measure => simp [intOf]; omega
        · obtain rfl : k = n := by omega
          go_wp2_with fail
          refine (vclose hst).mono ?_
          clear hst
          rintro e w3 ⟨rfl, hsh⟩
          go_wp2_with fail
          refine (openLen_any _ _ _ _ _ _ _ _ hsh.fin).mono ?_
          rintro e w4 ⟨rfl, rfl⟩
          go_wp2_with fail
          refine (insideLen_any _ _ _ _ _ _ _ 0 _ rfl _ hsh.fin hsh.ins).mono ?_
          rintro e w4 ⟨rfl, rfl⟩
          go_wp2_with fail
          refine (holdingLen_any _ _ _ _ _ _ _ 0 _ rfl _ hsh.fin hsh.held).mono ?_
          rintro e w4 ⟨rfl, rfl⟩
          go_wp2_with fail
          refine (zz_none _ (fun x => x = w4) _ (next_none _ _ _ _ _ _ _ hsh.fin)).mono ?_
          rintro e w5 ⟨rfl, rfl⟩
          go_wp2_with fail
          go_ret
          exact ⟨rfl, hb1.trans ((hbel.trans (hsh.upd.below hold.out)).mono hb1.size)⟩

theorem vec_law (a : Option Addr) (n cap : Nat) (v : Nat → Int) (tl : Int) (ta : Bool) (w : World) (ha : a = none → n = 0) (hr : Ints w a n v) (hm : n ≤ maxLen) (hn : (n : Int) ≤ 65536) :
    Calls Try.prog 3 #[.slice a n cap, .int .i64 tl, .bool true, .bool ta] w fun e w' => e = .returned (.bool true) ∧ Below w.heap.size w w' := by
  cases a with
  | none =>
    obtain rfl := ha rfl
    cases ta
    · exact vec_law_false_none cap v tl w
    · exact vec_law_true_none cap v tl w
  | some x =>
    cases ta
    · exact vec_law_false_some x n cap v tl w hr hm hn
    · exact vec_law_true_some x n cap v tl w hr hm hn

end Go.Proofs.Qxb6604422a

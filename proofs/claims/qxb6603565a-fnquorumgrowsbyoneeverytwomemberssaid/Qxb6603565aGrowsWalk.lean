/-
  The walk of FnQuorumGrowsByOneEveryTwoMembers.
-/
import Derived.Test.Qxb6603565aLeastWalk
import Derived.Laws.CopyOwn
namespace Go.Proofs.Qxb6603565a
open Go.RowKit

/-- 'copy(xs, ys)': xs a row of strings that the call itself made, ys strings that can be read, no more of them. -/
theorem wpList_copy_row {P : Program} {w : World} {ops : Array Oper} {rest : List Oper} {o : Oper} {a : Act} {Q : Exit → Act → World → Prop} (hgd : o.guard = none) (d s : Operand) (dT sT : TypeId)
    (ho : o.op = .call { callee := .builtin .copy, args := #[d, s], argTypes := #[dT, sT] }) (elem : TypeId) (hu : P.underlying dT = some (.slice elem)) (hsz : (P.info? elem).map (·.size) = some 1)
    (g m dCap : Nat) (sp : Option Addr) (sLen sCap : Nat) (hd : a.eval d = .slice (some ⟨g, 0, none⟩) m dCap) (hs : a.eval s = .slice sp sLen sCap)
    (hR : Row IsStrM w g m) (hS : Readable w sp sLen) (hle : sLen ≤ m)
    (h : ∀ w', Row IsStrM w' g m → Below g w w' → wpList P ops Q rest (a.put o.dst (goInt sLen)) w') :
    wpList P ops Q (o :: rest) a w := by
  obtain ⟨cur, t, hg, hsize, hp⟩ := hR
  obtain ⟨cs, hlen, hpos, hcs⟩ : ∃ cs : List Value, cs.length = sLen ∧ (0 < cs.length → ∃ ad, sp = some ad ∧ ∀ j v, cs[j]? = some v → w.cell? (ad.add j) = some v) ∧ ∀ v ∈ cs, IsStrM v := by
    rcases hS with rfl | ⟨b, off, rfl, hb, hc⟩
    · exact ⟨[], rfl, by simp, by simp⟩
    · refine ⟨(List.range sLen).map (fun i => (w.cell? ⟨b, off + i, none⟩).getD (.string ByteArray.empty)), by simp, fun _ => ⟨_, rfl, fun j v hv => ?_⟩, fun v hv => ?_⟩
      · rw [List.getElem?_map, Option.map_eq_some_iff] at hv
        obtain ⟨i, hi, rfl⟩ := hv
        have hj : j < sLen := by
          have := (List.getElem?_eq_some_iff.1 hi).1
          simpa using this
        rw [List.getElem?_range hj] at hi
        cases hi
        obtain ⟨s, hs1, _⟩ := hc j hj
        have e1 : (⟨b, off, none⟩ : Addr).add j = ⟨b, off + j, none⟩ := by simp [Addr.add]
        rw [e1, hs1]; rfl
      · rw [List.mem_map] at hv
        obtain ⟨i, hi, rfl⟩ := hv
        obtain ⟨s, hs1, hs2⟩ := hc i (List.mem_range.1 hi)
        exact ⟨s, by rw [hs1]; rfl, hs2⟩
  refine wpList_copy_splice hgd d s dT sT ho elem hu hsz _ _ _ _ _ _ hd hs g 0 cur.toList t (by simpa using hg) cs (by rw [hlen]; exact (Nat.min_eq_left hle).symm) (fun k => ⟨rfl, hpos k⟩) (by simp; omega)
    (fun v hv => by obtain ⟨s, rfl, _⟩ := hcs v hv; rfl) g w (Below.refl _ _) (Nat.le_refl _) ?_
  intro w' hh hb
  rw [hlen]
  refine h w' ⟨_, t, hh.out, ?_, ?_⟩ hb
  · rw [List.size_toArray, length_splice _ _ _ (by simp; omega)]; simpa using hsize
  · intro j v hv
    have hm : v ∈ splice cur.toList 0 cs := by
      have := Array.mem_of_getElem? hv
      simpa using this
    simp only [splice, List.take_zero, List.nil_append, List.mem_append] at hm
    rcases hm with hm | hm
    · exact hcs v hm
    · have := List.mem_of_mem_drop hm
      obtain ⟨i, hi⟩ := List.getElem?_of_mem this
      exact hp i v (by simpa using hi)

set_option maxHeartbeats 800000 in
theorem zzBytes18_any (a : Option Addr) (len cap : Nat) (x : ByteArray) (w : World) (hr : Readable w a len) (hm : len ≤ maxLen) (hx : x.size ≤ maxLen) :
    Calls Try.prog 18 #[.slice a len cap, .string x] w fun e w' => Answers w e w' := by
  unfold maxLen at hm hx
  by_cases h0 : (1048576 : Int) < len
  · go_enter Try.func18, Try.ntmps18
    go_wp2
    go_ret
    exact ⟨_, rfl, rfl⟩
  go_enter Try.func18, Try.ntmps18
  go_wp2
  go_loop [5, 6] (fun z i => ∃ (k : Nat) (y : Int), k ≤ len ∧ i = .int .i64 k ∧ z = .int .i64 y ∧ 0 ≤ y ∧ y ≤ 1048576) (fun _ i => len - (intOf i).toNat)
  case atStart => exact ⟨0, _, Nat.zero_le _, rfl, rfl, by omega, by omega⟩
  case round =>
    obtain ⟨k, y, hk, rfl, rfl, hy0, hy1⟩ := hrel
    by_cases hlt : k < len
    · rcases hr with h0 | ⟨b, off, hx, hbl, hc⟩
      · omega
      cases hx
      obtain ⟨v, hv, hvm⟩ := hc k hlt
      unfold maxLen at hvm
      go_wp2
      · go_ret
        exact ⟨_, rfl, rfl⟩
      · go_ret
        exact ⟨_, rfl, rfl⟩
      · go_round
        case rel => exact ⟨k + 1, _, by omega, by go_num, rfl, by omega, by omega⟩
        case measure => simp [intOf]; omega
    · go_wp2
      all_goals
        go_ret
        exact ⟨_, rfl, rfl⟩

theorem size9 : (Try.prog.info? 9).map (·.size) = some 1 := by kernel_rfl

theorem rowMade {w w1 : World} {n : Nat} (hown : w1.ownsRow w.heap.size 9 1 (.slice (some ⟨w.heap.size, 0, none⟩) n n) n (madeCells (Value.string ByteArray.empty).cells (n * 1)).toList) (hgrow : w.grownBy w1 none) (G : Nat) (hG : w.heap.size = G) :
    Row IsStrM w1 G n ∧ Below G w w1 := by
  subst hG
  have hrow : Row IsStrM w1 w.heap.size (n * 1) := Row.of hown (by
    intro v hv
    rw [Nat.mul_one, show (Value.string ByteArray.empty).cells = #[.string ByteArray.empty] from rfl, toList_madeCells_one] at hv
    exact ⟨ByteArray.empty, (List.eq_of_mem_replicate hv), by decide⟩)
  rw [Nat.mul_one] at hrow
  exact ⟨hrow, (Below.refl _ _).grown hgrow (Nat.le_refl _) (by intro k hk; cases hk)⟩

theorem one_read {w3 w4 : World} {g len : Nat} {x : ByteArray} (hx : x.size ≤ maxLen) (hR3 : Row IsStrM w3 g (len + 1)) (hB4 : Below w3.heap.size (w3.setCell ⟨g, len, none⟩ (.string x)) w4) : Readable w4 (some ⟨g, 0, none⟩) (len + 1) := by
  refine ((hR3.set len (.string x) ⟨x, rfl, hx⟩).keep ?_).readable
  rw [World.size_setCell]
  exact hB4

/-- Behind the two longer copies: all three slices can be read, and nothing that was there has turned. -/
theorem three {w w1 w2 w3 w4 w5 : World} {a1 : Option Addr} {len : Nat} {x : ByteArray} (hx : x.size ≤ maxLen) (hb1 : Below w.heap.size w w1) (hr1 : Readable w1 a1 len) (hB2 : Below w1.heap.size w1 w2) (hB3 : Below w1.heap.size w2 w3) (hR3 : Row IsStrM w3 w1.heap.size (len + 1))
    (hB4 : Below w3.heap.size (w3.setCell ⟨w1.heap.size, len, none⟩ (.string x)) w4) (hB5 : Below w3.heap.size w4 w5) (hR5 : Row IsStrM w5 w3.heap.size (len + 2)) :
    Readable (w5.setCell ⟨w3.heap.size, len + 1, none⟩ (.string x)) a1 len ∧ Readable (w5.setCell ⟨w3.heap.size, len + 1, none⟩ (.string x)) (some ⟨w1.heap.size, 0, none⟩) (len + 1) ∧
    Readable (w5.setCell ⟨w3.heap.size, len + 1, none⟩ (.string x)) (some ⟨w3.heap.size, 0, none⟩) (len + 2) ∧ Below w.heap.size w (w5.setCell ⟨w3.heap.size, len + 1, none⟩ (.string x)) := by
  have z1 := hb1.size
  have z2 := hB2.size
  have z3 := hB3.size
  have hl := hR3.lt
  have hB : Below w1.heap.size w1 (w5.setCell ⟨w3.heap.size, len + 1, none⟩ (.string x)) :=
    ((((hB2.trans hB3).setCell (p := ⟨w1.heap.size, len, none⟩) (Nat.le_refl _) (.string x)).trans (hB4.mono (by omega))).trans (hB5.mono (by omega))).setCell (by show w1.heap.size ≤ w3.heap.size; omega) _
  have hB' : Below (w3.setCell ⟨w1.heap.size, len, none⟩ (.string x)).heap.size (w3.setCell ⟨w1.heap.size, len, none⟩ (.string x)) (w5.setCell ⟨w3.heap.size, len + 1, none⟩ (.string x)) := by
    rw [World.size_setCell]
    exact (hB4.trans hB5).setCell (Nat.le_refl _) _
  refine ⟨hr1.keep hB, ?_, ?_, hb1.trans (hB.mono z1)⟩
  · exact ((hR3.set len (.string x) ⟨x, rfl, hx⟩).keep hB').readable
  · exact (hR5.set (len + 1) (.string x) ⟨x, rfl, hx⟩).readable

set_option maxRecDepth 100000 in
set_option maxHeartbeats 1600000 in
theorem grows_walk (a : Option Addr) (len cap : Nat) (x : ByteArray) (w : World) (ha : a = none → len = 0) (hr : Readable w a len) (hm : len ≤ maxLen) (hx : x.size ≤ maxLen) :
    Calls Try.prog 6 #[.slice a len cap, .string x] w fun e w' => e = .returned (.bool true) ∧ Below w.heap.size w w' := by
  have hm' := hm
  have hx' := hx
  unfold maxLen at hm' hx'
  obtain ⟨i0, hi, hz0, hz1, hz2⟩ := info_parts info9
  by_cases h0 : (65536 : Int) < len
  · go_enter Try.func6, Try.ntmps6
    go_wp2_with fail
    refine (zzBytes18_any a len cap x _ hr hm hx).mono ?_
    rintro e w' ⟨b, rfl, rfl⟩
    cases b
    all_goals
      go_wp2_with fail
      go_ret
      exact ⟨rfl, Below.refl _ _⟩
  by_cases h1 : (65536 : Int) < x.size
  · go_enter Try.func6, Try.ntmps6
    go_wp2_with fail
    refine (zzBytes18_any a len cap x _ hr hm hx).mono ?_
    rintro e w' ⟨b, rfl, rfl⟩
    cases b
    all_goals
      go_wp2_with fail
      go_ret
      exact ⟨rfl, Below.refl _ _⟩
  go_enter Try.func6, Try.ntmps6
  go_wp2_with fail
  refine (zzBytes18_any a len cap x _ hr hm hx).mono ?_
  rintro e w' ⟨b, rfl, rfl⟩
  cases b
  · go_wp2_with fail
    go_ret
    exact ⟨rfl, Below.refl _ _⟩
  go_wp2_with fail
  go_loop [5, 29] (fun z i => ∃ (k : Nat) (y : Int), k ≤ len ∧ i = .int .i64 k ∧ z = .int .i64 y ∧ 0 ≤ y ∧ y ≤ 1048576) (fun _ i => len - (intOf i).toNat)
  case atStart => exact ⟨0, _, Nat.zero_le _, rfl, rfl, by omega, by omega⟩
  case round =>
    obtain ⟨k, y, hk, rfl, rfl, hy0, hy1⟩ := hrel
    by_cases hlt : k < len
    · rcases hr with h0 | ⟨b, off, hx, hbl, hc⟩
      · omega
      cases hx
      obtain ⟨v, hv, hvm⟩ := hc k hlt
      unfold maxLen at hvm
      go_wp2_with fail
      · go_ret
        exact ⟨rfl, Below.refl _ _⟩
      · go_ret
        exact ⟨rfl, Below.refl _ _⟩
      · go_round
        case rel => exact ⟨k + 1, _, by omega, by go_num, rfl, by omega, by omega⟩
        case measure => simp [intOf]; omega
    · go_wp2_with fail
      refine (clone_any a len cap _ ha hr (by omega)).mono ?_
      rintro e w1 ⟨a1, c1, rfl, hr1, ha1, hb1⟩
      clear ha1
      go_wp2_with (first | (at_make; refine wpList_make_full _ rfl (.tmp 49) (.tmp 49) 32 rfl w1.heap.size 9 i0 (.string ByteArray.empty) 1 Try.underlying32 hi hz0 hz1 _ _ _ _ (len + 1) rfl rfl (by omega) (by omega) (by rw [hz2]; omega) (by unfold maxLen; omega) (Nat.le_refl _) ?_; intro w2 hown hgrow; obtain ⟨hR2, hB2⟩ := rowMade hown hgrow _ rfl; clear hown hgrow) | (with_reducible show wpList _ _ _ ({ dst := some 53, op := _, type := _, pos := _, after := _, guard := _ } :: _) _ _; refine wpList_copy_row rfl (.tmp 51) (.tmp 52) 32 32 rfl 9 Try.underlying32 size9 w1.heap.size (len + 1) (len + 1) a1 len c1 rfl rfl hR2 (hr1.keep hB2) (by omega) ?_; intro w3 hR3 hB3; obtain ⟨v3, hv3, _⟩ := hR3.cell len (by omega); have hf3 := hR3.free len) | (at_make; refine wpList_make_full _ rfl (.tmp 59) (.tmp 59) 32 rfl _ 9 i0 (.string ByteArray.empty) 1 Try.underlying32 hi hz0 hz1 _ _ _ _ (len + 2) rfl rfl (by omega) (by omega) (by rw [hz2]; omega) (by unfold maxLen; omega) (Nat.le_refl _) ?_; intro w4 hown hgrow; obtain ⟨hR4, hB4⟩ := rowMade hown hgrow w3.heap.size (World.size_setCell _ _ _); clear hown hgrow) | (with_reducible show wpList _ _ _ ({ dst := some 63, op := _, type := _, pos := _, after := _, guard := _ } :: _) _ _; refine wpList_copy_row rfl (.tmp 61) (.tmp 62) 32 32 rfl 9 Try.underlying32 size9 w3.heap.size (len + 2) (len + 2) (some ⟨w1.heap.size, 0, none⟩) (len + 1) (len + 1) rfl rfl hR4 (one_read hx hR3 hB4) (by omega) ?_; intro w5 hR5 hB5; obtain ⟨v5, hv5, _⟩ := hR5.cell (len + 1) (by omega); have hf5 := hR5.free (len + 1)))
      obtain ⟨s0, s1, s2, s3⟩ := three hx hb1 hr1 hB2 hB3 hR3 hB4 hB5 hR5
      refine (newView_any a1 len c1 _ s0 (by omega)).mono ?_
      rintro e w6 ⟨g6, a6, c6, rfl, hc6, hg6, hb6⟩
      go_wp2_with fail
      refine (quorum_any g6 a6 len c6 _ hc6 (by omega)).mono ?_
      rintro e w6' ⟨rfl, rfl⟩
      go_wp2_with fail
      refine (newView_any (some ⟨w1.heap.size, 0, none⟩) (len + 1) (len + 1) _ (s1.keep hb6) (by omega)).mono ?_
      rintro e w7 ⟨g7, a7, c7, rfl, hc7, hg7, hb7⟩
      go_wp2_with fail
      refine (quorum_any g7 a7 (len + 1) c7 _ hc7 (by omega)).mono ?_
      rintro e w7' ⟨rfl, rfl⟩
      go_wp2_with fail
      refine (newView_any (some ⟨w3.heap.size, 0, none⟩) (len + 2) (len + 2) _ ((s2.keep hb6).keep hb7) (by omega)).mono ?_
      rintro e w8 ⟨g8, a8, c8, rfl, hc8, hg8, hb8⟩
      go_wp2_with fail
      refine (quorum_any g8 a8 (len + 2) c8 _ hc8 (by omega)).mono ?_
      rintro e w8' ⟨rfl, rfl⟩
      have fin : Below w'.heap.size w' w8' := ((s3.trans (hb6.mono s3.size)).trans (hb7.mono (Nat.le_trans s3.size hb6.size))).trans (hb8.mono (Nat.le_trans (Nat.le_trans s3.size hb6.size) hb7.size))
      clear hb6 hb7 hb8 s0 s1 s2 s3 hc6 hc7 hc8 hR2 hR3 hR4 hR5 hB2 hB3 hB4 hB5 hv3 hv5 hf3 hf5 hr1 hb1
      rcases (show (len : Int) ≤ 0 ∨ (1 ≤ (len : Int) ∧ (len : Int) % 2 = 1) ∨ (1 ≤ (len : Int) ∧ (len : Int) % 2 = 0) by omega) with q | ⟨q, q'⟩ | ⟨q, q'⟩
      · obtain rfl : len = 0 := by omega
        go_wp2_with fail
        go_ret
        exact ⟨rfl, fin⟩
      · have f1 : ((len : Int) + 1) / 2 = (len : Int) / 2 + 1 := by omega
        have f2 : ((len : Int) + 2) / 2 = (len : Int) / 2 + 1 := by omega
        have f3 : (len : Int) / 2 + 1 ≤ len := by omega
        go_wp2_with fail
        go_ret
        exact ⟨rfl, fin⟩
      · have f1 : ((len : Int) + 1) / 2 = (len : Int) / 2 := by omega
        have f2 : ((len : Int) + 2) / 2 = (len : Int) / 2 + 1 := by omega
        have f3 : (len : Int) / 2 + 1 ≤ len := by omega
        have f4 : ((len : Int) / 2 + 1 == (len : Int) / 2 + 1 + 1) = false := beq_eq_false_iff_ne.2 (by omega)
        go_wp2_with fail
        go_ret
        exact ⟨rfl, fin⟩
end Go.Proofs.Qxb6603565a

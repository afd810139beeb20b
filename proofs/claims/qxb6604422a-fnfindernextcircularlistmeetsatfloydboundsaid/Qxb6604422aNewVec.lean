/-
  The walk of ZZnewFinder over a vector.
-/
import Derived.Test.Qxb6604422aNext
import Derived.Deep.AppendLies
namespace Go.Proofs.Qxb6604422a
open Go.RowKit

/-- The n cells behind an address hold the numbers s 0, s 1, .. -/
def Ints (w : World) (a : Option Addr) (n : Nat) (s : Nat → Int) : Prop := n = 0 ∨ ∃ b off, a = some ⟨b, off, none⟩ ∧ b < w.heap.size ∧ ∀ i, i < n → w.cell? ⟨b, off + i, none⟩ = some (.int .i64 (s i))
theorem Ints.keep {w w' : World} {a : Option Addr} {n : Nat} {s : Nat → Int} (hb : Below w.heap.size w w') (h : Ints w a n s) : Ints w' a n s := by
  rcases h with h | ⟨b, off, ha, hl, h⟩
  · exact .inl h
  · exact .inr ⟨b, off, ha, Nat.lt_of_lt_of_le hl hb.size, fun i hi => (hb.cell (p := ⟨b, off + i, none⟩) hl).trans (h i hi)⟩

/-- A finder whose open searches are the value ov. -/
def FinV (w : World) (F T H : Nat) (ov : Value) (I : Nat) : Prop :=
  w.heap[F]? = some (.cells #[.func (.func 13) #[] #[.pointer (some ⟨T, 0, none⟩)], .map (some H), ov, .map (some I)] 39 (0, 0))
theorem FinV.cells {w : World} {F T H : Nat} {ov : Value} {I : Nat} (h : FinV w F T H ov I) :
    w.cell? ⟨F, 0, none⟩ = some (.func (.func 13) #[] #[.pointer (some ⟨T, 0, none⟩)]) ∧ w.cell? ⟨F, 1, none⟩ = some (.map (some H)) ∧ w.cell? ⟨F, 2, none⟩ = some ov ∧ w.cell? ⟨F, 3, none⟩ = some (.map (some I)) := by
  refine ⟨?_, ?_, ?_, ?_⟩ <;> (rw [cell_of_row w F _ _ 39 (0, 0) h]; rfl)
theorem FinV.free {w : World} {F T H : Nat} {ov : Value} {I : Nat} (h : FinV w F T H ov I) (k : Nat) : w.frozen? ⟨F, k, none⟩ = false := frozen_of_row w F k _ 39 h
theorem FinV.set2 {w : World} {F T H : Nat} {ov : Value} {I : Nat} (h : FinV w F T H ov I) (O ol c : Nat) : Fin (w.setCell ⟨F, 2, none⟩ (.slice (some ⟨O, 0, none⟩) ol c)) F T H O c I ol := by
  unfold Fin
  rw [heap_setCell_same w F 2 _ 39 _ h]; rfl

/-- The four blocks that the finder's making lays behind w: the test's captured variable, the two maps, the finder. -/
structure Base (w x : World) (ta : Bool) : Prop where
  test : x.heap[w.heap.size]? = some (.cells #[.bool ta] 4 (0, 0))
  held : MapIs x (w.heap.size + 1) []
  ins : MapIs x (w.heap.size + 2) []
  fin : FinV x (w.heap.size + 3) w.heap.size (w.heap.size + 1) (.slice none 0 0) (w.heap.size + 2)
  size : w.heap.size + 4 ≤ x.heap.size
  below : Below w.heap.size w x

theorem heap_new (x : World) (o : Obj) : (x.alloc o).heap[x.heap.size]? = some o := (MapKept.heap_alloc x o).1
theorem Base.keep {w x y : World} {ta : Bool} (h : Base w x ta) (hb : Below (w.heap.size + 4) x y) : Base w y ta := by
  obtain ⟨h1, ⟨e2, c2, h2, r2⟩, ⟨e3, c3, h3, r3⟩, h4, h5, h6⟩ := h
  exact ⟨(hb.block _ (by omega)).trans h1, ⟨e2, c2, (hb.block _ (by omega)).trans h2, r2⟩, ⟨e3, c3, (hb.block _ (by omega)).trans h3, r3⟩, (hb.block _ (by omega)).trans h4, Nat.le_trans h5 hb.size, h6.trans (hb.mono (by omega))⟩

theorem base_of (w : World) (ta : Bool) : Base w ((((w.alloc (.cells #[.bool ta] 4)).alloc (.map #[] 0)).alloc (.map #[] 0)).alloc (.cells #[.func (.func 13) #[] #[.pointer (some ⟨w.heap.size, 0, none⟩)], .map (some (w.heap.size + 1)), .slice none 0 0, .map (some (w.heap.size + 2))] 39)) ta := by
  have z1 : (w.alloc (.cells #[.bool ta] 4)).heap.size = w.heap.size + 1 := by simp
  have z2 : ((w.alloc (.cells #[.bool ta] 4)).alloc (.map #[] 0)).heap.size = w.heap.size + 2 := by simp
  have z3 : (((w.alloc (.cells #[.bool ta] 4)).alloc (.map #[] 0)).alloc (.map #[] 0)).heap.size = w.heap.size + 3 := by simp
  refine ⟨?_, ⟨#[], 0, ?_, rfl, by simp⟩, ⟨#[], 0, ?_, rfl, by simp⟩, ?_, by simp, ?_⟩
  · rw [Below.heap_alloc _ _ _ (by omega), Below.heap_alloc _ _ _ (by omega), Below.heap_alloc _ _ _ (by omega)]
    exact heap_new _ _
  · rw [Below.heap_alloc _ _ _ (by omega), Below.heap_alloc _ _ _ (by omega), ← z1]
    exact heap_new _ _
  · rw [Below.heap_alloc _ _ _ (by omega), ← z2]
    exact heap_new _ _
  · unfold FinV
    rw [← z3]
    exact heap_new _ _
  · exact ((((Below.refl _ _).alloc (Nat.le_refl _) _).alloc (by simp) _).alloc (by simp; omega) _).alloc (by simp; omega) _

/-- Block A is a row of n interface values of which the first k hold the numbers v. -/
def VRow (w : World) (A n k : Nat) (v : Nat → Int) : Prop := ∃ cur, w.heap[A]? = some (.cells cur 20 (0, 0)) ∧ cur.size = n ∧ ∀ j, j < k → cur[j]? = some (.iface 2 (.int .i64 (v j)))
theorem VRow.cell {w : World} {A n k : Nat} {v : Nat → Int} (h : VRow w A n k v) (j : Nat) (hj : j < n) : ∃ u, w.cell? ⟨A, j, none⟩ = some u := by
  obtain ⟨cur, h, hn, _⟩ := h
  rw [cell_of_row w A j cur 20 (0, 0) h]
  exact ⟨cur[j], by simp [hn, hj]⟩
theorem VRow.at {w : World} {A n k : Nat} {v : Nat → Int} (h : VRow w A n k v) (j : Nat) (hj : j < k) : w.cell? ⟨A, j, none⟩ = some (.iface 2 (.int .i64 (v j))) := by
  obtain ⟨cur, h, hn, hv⟩ := h
  rw [cell_of_row w A j cur 20 (0, 0) h, hv j hj]
theorem VRow.free {w : World} {A n k : Nat} {v : Nat → Int} (h : VRow w A n k v) (j : Nat) : w.frozen? ⟨A, j, none⟩ = false := by
  obtain ⟨cur, h, _⟩ := h
  exact frozen_of_row w A j cur 20 h
theorem VRow.set {w : World} {A n k : Nat} {v : Nat → Int} (h : VRow w A n k v) (hk : k < n) : VRow (w.setCell ⟨A, k, none⟩ (.iface 2 (.int .i64 (v k)))) A n (k + 1) v := by
  obtain ⟨cur, h, hn, hv⟩ := h
  refine ⟨cur.setIfInBounds k (.iface 2 (.int .i64 (v k))), heap_setCell_same w A k cur 20 _ h, by simpa using hn, fun j hj => ?_⟩
  rw [Array.getElem?_setIfInBounds]
  by_cases e : k = j
  · subst e; simp [hn, hk]
  · rw [if_neg e]; exact hv j (by omega)
theorem VRow.of {w1 : World} {n : Nat} {v : Nat → Int} {base g : Nat} {xs : List Value} (hown : w1.ownsRow base 20 1 (.slice (some ⟨g, 0, none⟩) n n) n xs) : VRow w1 g n 0 v := by
  rcases hown.2 with ⟨h', _⟩ | ⟨g', cap', cur, h', _, hg, _, _, hs, ht⟩
  · simp at h'
  · simp only [Value.slice.injEq, Option.some.injEq, Addr.mk.injEq, and_true, true_and] at h'
    obtain ⟨rfl, rfl⟩ := h'
    exact ⟨cur, hg, by simpa using hs, by omega⟩

theorem info20 : (Try.prog.info? 20).map (fun i => (i.zero, i.size, i.bytes)) = some (some .nilIface, 1, 16) := by kernel_rfl
theorem info44 : (Try.prog.info? 44).map (fun i => (i.zero, i.size, i.bytes)) = some (some (.pointer none), 1, 8) := by kernel_rfl

/-- A finder that is inside one search. -/
structure Ready (w w' : World) (F T H O c I S : Nat) (ta : Bool) (of : Value) : Prop where
  fin : Fin w' F T H O c I 1
  cap : 1 ≤ c
  test : w'.cell? ⟨T, 0, none⟩ = some (.bool ta)
  opn : w'.cell? ⟨O, 0, none⟩ = some (.pointer (some ⟨S, 0, none⟩))
  held : MapIs w' H []
  ins : MapIs w' I [of]
  old : ∀ k, k ∈ [F, T, H, O, I, S] → w.heap.size ≤ k
  apart : F ≠ T ∧ F ≠ H ∧ F ≠ O ∧ F ≠ I ∧ F ≠ S ∧ T ≠ H ∧ T ≠ O ∧ T ≠ I ∧ T ≠ S ∧ H ≠ O ∧ H ≠ I ∧ H ≠ S ∧ O ≠ I ∧ O ≠ S ∧ I ≠ S
  below : Below w.heap.size w w'

def VecMade (w : World) (n : Nat) (v : Nat → Int) (ta : Bool) (e : Ending) (w' : World) : Prop := ∃ F T H O c I S V A, e = .returned (.tuple #[.pointer (some ⟨F, 0, none⟩), .slice none 0 0]) ∧ Ready w w' F T H O c I S ta (kp 40 V) ∧
  Sea w' S (kp 40 V) .nilIface false .nilIface 0 false 0 false ∧ w'.heap[V]? = some (.cells #[.slice (some ⟨A, 0, none⟩) n n] 43 (0, 0)) ∧ VRow w' A n n v ∧ V ∉ [F, T, H, O, I, S] ∧ A ∉ [F, T, H, O, I, S]

/-- The search of a fresh finder, and the row that holds it: behind 'f.open = append(f.open, &search{..})'. -/
theorem opened {w x W w3 : World} {ta : Bool} {t p g cp N : Nat} {at_ slow : Value} (hB : Base w x ta) (hN : x.heap.size = N)
    (hW : W = (x.alloc (.cells #[kp t p, at_, .bool false, slow, .int .i64 0, .bool false, .int .i64 0, .bool false] 48)).alloc (.cells #[.pointer (some ⟨N, 0, none⟩)] 44))
    (hown : w3.ownsRow (w.heap.size + 4) 44 1 (.slice (some ⟨g, 0, none⟩) (0 + 1) cp) (0 + 1) ([] ++ [.pointer (some ⟨N, 0, none⟩)])) (hgrow : W.grownBy w3 none) (hat : (none : Option Nat) = some g ∨ g = N + 2) :
    Base w w3 ta ∧ Below N x w3 ∧ 1 ≤ cp ∧ w3.cell? ⟨N + 2, 0, none⟩ = some (.pointer (some ⟨N, 0, none⟩)) ∧ Sea w3 N (kp t p) at_ false slow 0 false 0 false ∧ g = N + 2 ∧ N + 2 < w3.heap.size := by
  subst hN
  have hg : g = x.heap.size + 2 := by
    rcases hat with h | h
    · cases h
    · exact h
  subst hg
  have hs := hB.size
  have hb0 : Below x.heap.size x W := by rw [hW]; exact ((Below.refl _ _).alloc (Nat.le_refl _) _).alloc (by simp) _
  have hws : W.heap.size = x.heap.size + 2 := by rw [hW]; simp
  have hb1 : Below x.heap.size x w3 := hb0.grown hgrow (by omega) (by intro k hk; cases hk)
  have hcap : 1 ≤ cp ∧ x.heap.size + 2 < w3.heap.size := by
    rcases hown.2 with ⟨h', _⟩ | ⟨g', cap', cur, h', _, hg, hc, _⟩
    · simp at h'
    · simp only [Value.slice.injEq, Option.some.injEq, Addr.mk.injEq, and_true, true_and] at h'
      obtain ⟨rfl, rfl⟩ := h'
      exact ⟨by omega, (Array.getElem?_eq_some_iff.1 hg).1⟩
  refine ⟨hB.keep (hb1.mono hs), hb1, hcap.1, ?_, ?_, rfl, hcap.2⟩
  · rw [hown.cellAt 0 (by omega)]; rfl
  · unfold Sea
    rw [hgrow.block _ (by omega) (by simp), hW, Below.heap_alloc _ _ _ (by simp)]
    exact heap_new _ _

theorem cell_new_at (x : World) (u : Value) (t : TypeId) (g : Nat) (hg : x.heap.size = g) : ∀ j y, [u][j]? = some y → (x.alloc (.cells #[u] t)).cell? ((⟨g, 0, none⟩ : Addr).add j) = some y := by
  subst hg
  exact cell_one_new x u t

/-- Behind 'f.inside[of] = true'. -/
theorem insided {t p : Nat} (T : PtrType t) {w w3 : World} {ta : Bool} (g cp : Nat) (hB : Base w w3 ta) (hp : Plain w3 p) (hpF : p ≠ w.heap.size + 3) :
    ∃ w5, (Instr.mapUpdate 35 (.map (some (w.heap.size + 2))) (.iface t (.pointer (some ⟨p, 0, none⟩))) (.bool true)).run Try.prog (w3.setCell ⟨w.heap.size + 3, 2, none⟩ (.slice (some ⟨g, 0, none⟩) 1 cp)) = .ok () w5 ∧
      MapIs w5 (w.heap.size + 2) [kp t p] ∧ Upd [w.heap.size + 3, w.heap.size + 2] w3 w5 ∧ Fin w5 (w.heap.size + 3) w.heap.size (w.heap.size + 1) g cp (w.heap.size + 2) 1 := by
  have hU : Upd [w.heap.size + 3] w3 (w3.setCell ⟨w.heap.size + 3, 2, none⟩ (.slice (some ⟨g, 0, none⟩) 1 cp)) := (Upd.refl _ _).setCell _ (by simp) _
  have hF := hB.fin.set2 g 1 cp
  obtain ⟨w5, hrun, hM, hU5⟩ := run_put T Try.underlying35 (L := []) (hU.map (by simp) hB.ins) (hU.plain (by simp [hpF]) hp) (by simp)
  exact ⟨w5, hrun, hM, (hU.mono (by simp)).trans (hU5.mono (by simp)), hF.keep hU5 (by simp)⟩

theorem one_ptr (v : Option Addr) : ∀ u ∈ [Value.pointer v], u.oneCell' = true := by intro u hu; simp at hu; subst hu; rfl

theorem vec_done {w wr w3 w5 : World} {ta : Bool} {n V A cp : Nat} {v : Nat → Int} (hBr : Base w wr ta) (hR : VRow wr A n n v) (hV : wr.heap[V]? = some (.cells #[.slice (some ⟨A, 0, none⟩) n n] 43 (0, 0))) (hsr : wr.heap.size = V + 1) (hA : w.heap.size + 4 ≤ A) (hAV : A < V)
    (hB3 : Base w w3 ta) (hb3 : Below wr.heap.size wr w3) (hcp : 1 ≤ cp) (ho3 : w3.cell? ⟨wr.heap.size + 2, 0, none⟩ = some (.pointer (some ⟨wr.heap.size, 0, none⟩))) (hS3 : Sea w3 wr.heap.size (kp 40 V) .nilIface false .nilIface 0 false 0 false)
    (hM5 : MapIs w5 (w.heap.size + 2) [kp 40 V]) (hU5 : Upd [w.heap.size + 3, w.heap.size + 2] w3 w5) (hF5 : Fin w5 (w.heap.size + 3) w.heap.size (w.heap.size + 1) (wr.heap.size + 2) cp (w.heap.size + 2) 1) :
    VecMade w n v ta (.returned (.tuple #[.pointer (some ⟨w.heap.size + 3, 0, none⟩), .slice none 0 0])) w5 := by
  have hz := hBr.size
  refine ⟨w.heap.size + 3, w.heap.size, w.heap.size + 1, wr.heap.size + 2, cp, w.heap.size + 2, wr.heap.size, V, A, rfl, ⟨hF5, hcp, ?_, ?_, ?_, hM5, ?_, by omega, ?_⟩, ?_, ?_, ?_, ?_, ?_⟩
  · rw [hU5.cell (p := ⟨w.heap.size, 0, none⟩) (by simp), cell_of_row w3 w.heap.size 0 _ 4 (0, 0) hB3.test]; rfl
  · exact (hU5.cell (p := ⟨wr.heap.size + 2, 0, none⟩) (by simp; omega)).trans ho3
  · exact hU5.map (by simp) hB3.held
  · intro k hk
    simp at hk
    omega
  · exact hB3.below.trans (hU5.below (by simp))
  · exact hS3.keep hU5 (by simp; omega)
  · exact (hU5.block V (by simp; omega)).trans ((hb3.block V (by omega)).trans hV)
  · obtain ⟨cur, h, r⟩ := hR
    exact ⟨cur, (hU5.block A (by simp; omega)).trans ((hb3.block A (by omega)).trans h), r⟩
  · simp; omega
  · simp; omega

set_option maxHeartbeats 3200000 in
set_option maxRecDepth 100000 in
theorem newVec_any (a : Option Addr) (n cap : Nat) (v : Nat → Int) (tl cyc : Int) (ta : Bool) (w : World) (hr : Ints w a n v) (hn : n ≤ 65536) :
    Calls Try.prog 6 #[.slice a n cap, .int .i64 tl, .int .i64 cyc, .bool true, .bool ta] w fun e w' => VecMade w n v ta e w' := by
  have hmm := @run_makeMap Try.prog
  obtain ⟨i0, hi, hz0, hz1, hz2⟩ := info_parts info20
  obtain ⟨j0, hj, hy0, hy1, hy2⟩ := info_parts info44
  go_enter Try.func6, Try.ntmps6
  go_wp2_with (at_make; refine wpList_make_full _ rfl (.tmp 26) (.tmp 26) 41 rfl (w.heap.size + 4) 20 i0 .nilIface 1 Try.underlying41 hi hz0 hz1 _ _ _ _ n rfl rfl rfl rfl (by rw [hz2]; omega) (by unfold maxLen; omega) (by simp) ?_; intro w1 hown hgrow)
  have hB0 := base_of w ta
  have hz : ((((w.alloc (.cells #[.bool ta] 4)).alloc (.map #[] 0)).alloc (.map #[] 0)).alloc (.cells #[.func (.func 13) #[] #[.pointer (some ⟨w.heap.size, 0, none⟩)], .map (some (w.heap.size + 1)), .slice none 0 0, .map (some (w.heap.size + 1 + 1))] 39)).heap.size = w.heap.size + 4 := by simp
  have hB1 : Base w w1 ta := hB0.keep ((Below.refl _ _).grown hgrow (by rw [hz]; exact Nat.le_refl _) (by intro k hk; cases hk))
  rw [hz] at hown
  have hV1 := VRow.of (v := v) hown
  have hA1 : w.heap.size + 4 < w1.heap.size := by obtain ⟨cur, h, _⟩ := hV1; exact (Array.getElem?_eq_some_iff.1 h).1
  clear hown hgrow hB0 hz hmm
  have eA : w.heap.size + 1 + 1 + 1 + 1 = w.heap.size + 4 := by omega
  have eF : w.heap.size + 1 + 1 + 1 = w.heap.size + 3 := by omega
  have eI : w.heap.size + 1 + 1 = w.heap.size + 2 := by omega
  rw [eA, eF, eI]
  clear eA eF eI
  have hb2 : Below w1.heap.size w1 (w1.alloc (.cells #[.slice (some ⟨w.heap.size + 4, 0, none⟩) n n] 43)) := (Below.refl _ _).alloc (Nat.le_refl _) _
  have hV2 : VRow (w1.alloc (.cells #[.slice (some ⟨w.heap.size + 4, 0, none⟩) n n] 43)) (w.heap.size + 4) n 0 v := by
    obtain ⟨cur, h, r⟩ := hV1
    exact ⟨cur, (hb2.block _ hA1).trans h, r⟩
  have hB2 := hB1.keep (hb2.mono hB1.size)
  have hv2 := heap_new w1 (.cells #[.slice (some ⟨w.heap.size + 4, 0, none⟩) n n] 43)
  have hs2 : (w1.alloc (.cells #[.slice (some ⟨w.heap.size + 4, 0, none⟩) n n] 43)).heap.size = w1.heap.size + 1 := by simp
  clear hb2 hV1 hB1
  generalize w1.alloc (.cells #[.slice (some ⟨w.heap.size + 4, 0, none⟩) n n] 43) = w2 at *
  generalize w1.heap.size = V at *
  generalize hAA : w.heap.size + 4 = A at *
  have HA : Hid (w.heap.size + 4 = A) := hAA
  clear hAA
  go_loopw [32] (fun i wr => ∃ k : Nat, k ≤ n ∧ i = .int .i64 k ∧ VRow wr A n k v ∧ Upd [A] w2 wr) (fun i _ => n - (intOf i).toNat)
  case atStart => exact ⟨0, Nat.zero_le _, rfl, hV2, Upd.refl _ _⟩
  case round =>
    clear hV2
    obtain ⟨k, hk, rfl, hR, hU⟩ := hrel
    have hvr : wr.heap[V]? = some (.cells #[.slice (some ⟨A, 0, none⟩) n n] 43 (0, 0)) := (hU.block V (by simp; omega)).trans hv2
    have cv : wr.cell? ⟨V, 0, none⟩ = some (.slice (some ⟨A, 0, none⟩) n n) := by rw [cell_of_row wr V 0 _ 43 (0, 0) hvr]; rfl
    have hBr : Base w wr ta := hB2.keep (by rw [HA.out]; exact hU.below (by simp))
    by_cases hlt : k < n
    · obtain ⟨u, hu⟩ := hR.cell k hlt
      have hf := hR.free k
      have l0 : (0 : Int) ≤ (k : Int) := by omega
      have l1 : (k : Int) < (n : Int) := by omega
      have hr' := hr.keep hBr.below
      rcases hr' with h0 | ⟨b, off, hx, hbl, hc⟩
      · omega
      cases hx
      have ci := hc k hlt
      clear hc
      go_wp2
      go_region
      go_wp2
      go_roundw
      case rel => exact ⟨k + 1, by omega, by go_num, hR.set hlt, (hU.setCell _ (by simp) _).drew⟩
      case measure => simp [intOf]; omega
    · obtain rfl : k = n := by omega
      have hsr : wr.heap.size = V + 1 := by rw [hU.size]; exact hs2
      have hAB := HA.out
      obtain ⟨a0, a1, a2, a3⟩ := hBr.fin.cells
      have HR : Hid (VRow wr A k k v) := hR
      have HV : Hid (wr.heap[V]? = some (.cells #[.slice (some ⟨A, 0, none⟩) k k] 43 (0, 0))) := hvr
      have HBr : Hid (Base w wr ta) := hBr
      clear hR hvr hB2 hv2 hs2 hU cv
      have Hsr : Hid (wr.heap.size = V + 1) := hsr
      have hVlt : V < wr.heap.size := by omega
      have hVF : V ≠ w.heap.size + 3 := by omega
      have hAV : w.heap.size + 4 ≤ A := by omega
      clear hsr hAB
      go_wp2_with (at_builtin; refine wpList_append_lies _ rfl (.tmp 53) (.tmp 57) 37 rfl (w.heap.size + 4) 44 j0 (.pointer none) 1 8 Try.underlying37 hj hy0 hy1 hy2 rfl (by decide) (.slice none 0 0) 0 [] rfl (World.ownsRow_nil _ _ _ _) ⟨wr.heap.size + 1, 0, none⟩ 1 1 [.pointer (some ⟨wr.heap.size, 0, none⟩)] rfl rfl (cell_new_at _ _ _ _ (by simp)) (one_ptr _) Nat.one_pos (by decide) (by decide) (by have := HBr.out.size; simp; omega) (wr.heap.size + 2) (by simp) ?_; intro g cp w3 hown3 hgrow hat hltg; obtain ⟨hB3, hb3, hcp, ho3, hS3, hgg, hlt3⟩ := opened (t := 40) (p := V) HBr.out rfl rfl hown3 hgrow hat; subst hgg; obtain ⟨d0, d1, d2, d3⟩ := hB3.fin.cells; have fr := hB3.fin.free 2; obtain ⟨w5, hrun, hM5, hU5, hF5⟩ := insided ptr40 (wr.heap.size + 2) cp hB3 ⟨_, _, (hb3.block V hVlt).trans HV.out⟩ hVF)
      go_ret2
      exact vec_done HBr.out HR.out HV.out Hsr.out hAV hA1 hB3 hb3 hcp ho3 hS3 hM5 hU5 hF5
end Go.Proofs.Qxb6604422a

/-
  The walk of appendMarks.
-/
import Derived.Test.Qxb6603712aGapWalk
import Derived.Deep.AppendLies
namespace Go.Proofs.Qxb6603712a
open Go.RowKit

theorem info39 : (Try.prog.info? 39).map (fun i => (i.zero, i.size, i.bytes)) = some (some (.int .u8 0), 1, 1) := by kernel_rfl

/-- How the appending ends. -/
def Marked (base : Nat) (w : World) (R : List Int) (e : Ending) (w' : World) : Prop :=
  ∃ g cap, e = .returned (.slice (some ⟨g, 0, none⟩) R.length cap) ∧ w'.ownsRow base 39 1 (.slice (some ⟨g, 0, none⟩) R.length cap) R.length (R.map (Value.int .u8)) ∧ Below base w w'

/-- What holds at a round's head: the row of marks so far, in a block that isn't the flags'; the flags' block as it was. -/
structure Mid (base g2 : Nat) (w wr : World) (v : Value) (X : List Int) : Prop where
  form : ∃ g cap, v = .slice (some ⟨g, 0, none⟩) X.length cap ∧ g ≠ g2
  own : wr.ownsRow base 39 1 v X.length (X.map (Value.int .u8))
  flags : wr.heap[g2]? = w.heap[g2]?
  lt : g2 < wr.heap.size
  room : base ≤ wr.heap.size
  below : Below base w wr

/-- One mark more. -/
theorem Mid.push {base g2 : Nat} {w wr w1 : World} {v : Value} {X : List Int} (h : Mid base g2 w wr v X) {m : Int} {g cap : Nat} {o : Obj} (hb : ∀ k, v.ownBlock = some k → base ≤ k)
    (hown : w1.ownsRow base 39 1 (.slice (some ⟨g, 0, none⟩) (X.length + 1) cap) (X.length + 1) (X.map (Value.int .u8) ++ [.int .u8 m])) (hgrow : (wr.alloc o).grownBy w1 v.ownBlock) (hat : v.ownBlock = some g ∨ g = wr.heap.size + 1) :
    Mid base g2 w w1 (.slice (some ⟨g, 0, none⟩) (X.length + 1) cap) (X ++ [m]) := by
  obtain ⟨gv, cv, rfl, hne⟩ := h.form
  have hsz := hgrow.size
  rw [World.size_alloc] at hsz
  have hlt := h.lt
  refine ⟨⟨g, cap, by simp, ?_⟩, by simpa using hown, ?_, by omega, by have := h.room; omega, ?_⟩
  · rcases hat with hat | hat
    · simp only [Value.ownBlock, Option.some.injEq] at hat
      omega
    · omega
  · have hk := hgrow.block g2 (by rw [World.size_alloc]; omega) (by simp only [Value.ownBlock, ne_eq, Option.some.injEq]; omega)
    rw [hk, Below.heap_alloc _ _ _ hlt, h.flags]
  · exact (h.below.alloc h.room o).grown hgrow (by rw [World.size_alloc]; have := h.room; omega) hb

theorem Mid.base_le {base g2 : Nat} {w wr : World} {v : Value} {X : List Int} (h : Mid base g2 w wr v X) : ∀ k, v.ownBlock = some k → base ≤ k := by
  obtain ⟨gv, cv, rfl, hne⟩ := h.form
  intro k hk
  simp only [Value.ownBlock, Option.some.injEq] at hk
  subst hk
  rcases h.own.2 with ⟨h', _⟩ | ⟨g', cap', cur, h', hb, _⟩
  · simp at h'
  · simp only [Value.slice.injEq, Option.some.injEq, Addr.mk.injEq, and_true, true_and] at h'
    omega

theorem one_u8 (m : Int) : ∀ u ∈ [Value.int .u8 m], u.oneCell' = true := by intro u hu; simp at hu; subst hu; rfl

set_option maxRecDepth 100000 in
set_option maxHeartbeats 6400000 in
theorem marks_any (base g1 cap1 g2 n cap2 : Nat) (ms : List Int) (st : Int) (gap : Bool) (f : Nat → Int) (w : World) (hown : w.ownsRow base 39 1 (.slice (some ⟨g1, 0, none⟩) ms.length cap1) ms.length (ms.map (Value.int .u8)))
    (hg : g1 ≠ g2) (hg2 : g2 < w.heap.size) (hb : base ≤ w.heap.size) (hfl : Hid (∀ j, j < n → w.cell? ⟨g2, j, none⟩ = some (.int .u8 (f j)))) (hn : n ≤ 4096) (hms : ms.length ≤ 65536) :
    Calls Try.prog 13 #[.slice (some ⟨g1, 0, none⟩) ms.length cap1, .slice (some ⟨g2, 0, none⟩) n cap2, .int .i64 st, .bool gap] w
      fun e w' => Marked base w (ms ++ (outs (fun j => gB (f j)) (fun j => rB (f j)) (fun j => cB (f j)) st n ++ [fin (fun j => gB (f j)) (fun j => rB (f j)) st gap n])) e w' := by
  obtain ⟨G, hG⟩ : ∃ G : Nat → Bool, G = fun j => gB (f j) := ⟨_, rfl⟩
  obtain ⟨R, hR⟩ : ∃ R : Nat → Bool, R = fun j => rB (f j) := ⟨_, rfl⟩
  obtain ⟨C, hC⟩ : ∃ C : Nat → Bool, C = fun j => cB (f j) := ⟨_, rfl⟩
  rw [← hG, ← hR, ← hC]
  have HG : Hid (∀ j, G j = gB (f j)) := fun j => by rw [hG]
  have HR : Hid (∀ j, R j = rB (f j)) := fun j => by rw [hR]
  have HC : Hid (∀ j, C j = cB (f j)) := fun j => by rw [hC]
  clear hG hR hC
  obtain ⟨i0, hi, hz0, hz1, hz2⟩ := info_parts info39
  have hm0 : Mid base g2 w w (.slice (some ⟨g1, 0, none⟩) ms.length cap1) ms := ⟨⟨g1, cap1, rfl, hg⟩, hown, rfl, hg2, hb, Below.refl _ _⟩
  clear hown
  go_enter Try.func13, Try.ntmps13
  go_wp2
  go_loopw [0, 9, 14] (fun v o i wr => ∃ (k : Nat) (X : List Int) (p : Bool), k ≤ n ∧ i = .int .i64 k ∧ o = .bool p ∧ Hid (p = pend G R st k) ∧ Hid (X = ms ++ outs G R C st k) ∧ X.length ≤ 69632 ∧ Mid base g2 w wr v X) (fun _ _ i _ => n - (intOf i).toNat)
  case atStart => exact ⟨0, ms, false, Nat.zero_le _, rfl, rfl, rfl, (by show ms = ms ++ outs G R C st 0; simp [outs]), by omega, hm0⟩
  case round =>
    clear hm0
    obtain ⟨k, X, p, hk, rfl, rfl, hp, hX, hXl, hM⟩ := hrel
    have hMb := hM.base_le
    obtain ⟨gv, cv, rfl, hgv⟩ := hM.form
    by_cases hlt : k < n
    · obtain ⟨c, hcc⟩ : ∃ c, c = f k := ⟨_, rfl⟩
      have ck : _ := (World.cell?_of_block (a := ⟨g2, k, none⟩) hM.flags).trans (hfl.out k hlt)
      rw [← hcc] at ck
      have hgk : G k = gB c := by rw [HG.out k, hcc]
      have hrk : R k = rB c := by rw [HR.out k, hcc]
      have hck : C k = cB c := by rw [HC.out k, hcc]
      clear hcc
      have hcase : (p = true) ∨ (p = false ∧ (bits BinOp.and IntKind.u8 c 2 != 0) = true ∧ gB c = true) ∨ (p = false ∧ (bits BinOp.and IntKind.u8 c 2 != 0) = false ∧ gB c = false) := by
        cases p
        · cases hgc : gB c
          · exact .inr (.inr ⟨rfl, hgc, rfl⟩)
          · exact .inr (.inl ⟨rfl, hgc, rfl⟩)
        · exact .inl rfl
      rcases hcase with rfl | ⟨rfl, t1, hgc⟩ | ⟨rfl, t1, hgc⟩
      · have HO : Hid ((pend G R st k || G k) = true) := by
          show _ = _
          rw [← hp.out, hgk]; simp
        clear hgk hp
        by_cases hst : (k : Int) < st
        · have HE : Hid (X = ms ++ outs G R C st (k + 1)) := by show X = _; rw [outs, if_pos hst]; exact hX.out
          have HQ : Hid (true = pend G R st (k + 1)) := by show _ = _; rw [pend_on (.inl hst), HO.out]
          clear hrk hck hX HO
          go_wp2
          go_roundw
          case rel => exact ⟨k + 1, X, true, by omega, by go_num, rfl, HQ, HE, hXl, hM⟩
          case measure => simp [intOf]; omega
        have hXk : X.length ≤ 65536 + k := by rw [hX.out, List.length_append]; have := outs_len G R C st k; omega
        cases hrc : rB c
        · have t0 : (bits BinOp.and IntKind.u8 c 4 != 0) = false := hrc
          have HQ : Hid (false = pend G R st (k + 1)) := by show _ = _; rw [pend_prog hst (by rw [hrk, hrc])]
          have HE : Hid (X ++ [1] = ms ++ outs G R C st (k + 1)) := by
            show _ = _
            rw [outs, if_neg hst, ← List.append_assoc, ← hX.out, mk, hrk, hrc, HO.out]; simp
          clear hrk hck hX HO hrc
          go_wp2_with (at_builtin; refine wpList_append_lies _ rfl (.tmp 46) (.tmp 47) 38 rfl base 39 i0 (.int .u8 0) 1 1 Try.underlying38 hi hz0 hz1 hz2 rfl (by decide) (.slice (some ⟨gv, 0, none⟩) X.length cv) X.length (X.map (Value.int .u8)) rfl (hM.own.alloc _) ⟨wr.heap.size, 0, none⟩ 1 1 [.int .u8 1] rfl rfl (cell_one_new _ _ _) (one_u8 1) Nat.one_pos (by unfold maxLen; omega) (by omega) (by have := hM.room; simp; omega) (wr.heap.size + 1) (by simp) ?_; intro g cap w1 hown1 hgrow hat hltg)
          have hM' := hM.push hMb hown1 hgrow hat
          clear hown1 hgrow hat hM hMb ck
          go_wp2
          go_roundw
          case rel => exact ⟨k + 1, X ++ [1], false, by omega, by go_num, rfl, HQ, HE, by simp; omega, by simpa using hM'⟩
          case measure => simp [intOf]; omega
        · have t0 : (bits BinOp.and IntKind.u8 c 4 != 0) = true := hrc
          have HQ : Hid (true = pend G R st (k + 1)) := by show _ = _; rw [pend_on (.inr (by rw [hrk, hrc])), HO.out]
          have HE : Hid (X ++ [2] = ms ++ outs G R C st (k + 1)) := by
            show _ = _
            rw [outs, if_neg hst, ← List.append_assoc, ← hX.out, mk, hrk, hrc]; simp
          clear hrk hck hX HO hrc
          go_wp2_with (at_builtin; refine wpList_append_lies _ rfl (.tmp 36) (.tmp 37) 38 rfl base 39 i0 (.int .u8 0) 1 1 Try.underlying38 hi hz0 hz1 hz2 rfl (by decide) (.slice (some ⟨gv, 0, none⟩) X.length cv) X.length (X.map (Value.int .u8)) rfl (hM.own.alloc _) ⟨wr.heap.size, 0, none⟩ 1 1 [.int .u8 2] rfl rfl (cell_one_new _ _ _) (one_u8 2) Nat.one_pos (by unfold maxLen; omega) (by omega) (by have := hM.room; simp; omega) (wr.heap.size + 1) (by simp) ?_; intro g cap w1 hown1 hgrow hat hltg)
          have hM' := hM.push hMb hown1 hgrow hat
          clear hown1 hgrow hat hM hMb ck
          go_wp2
          go_roundw
          case rel => exact ⟨k + 1, X ++ [2], true, by omega, by go_num, rfl, HQ, HE, by simp; omega, by simpa using hM'⟩
          case measure => simp [intOf]; omega
      · have HO : Hid ((pend G R st k || G k) = true) := by
          show _ = _
          rw [← hp.out, hgk]; simp [hgc]
        clear hgk hp
        by_cases hst : (k : Int) < st
        · have HE : Hid (X = ms ++ outs G R C st (k + 1)) := by show X = _; rw [outs, if_pos hst]; exact hX.out
          have HQ : Hid (true = pend G R st (k + 1)) := by show _ = _; rw [pend_on (.inl hst), HO.out]
          clear hrk hck hX HO
          go_wp2
          go_roundw
          case rel => exact ⟨k + 1, X, true, by omega, by go_num, rfl, HQ, HE, hXl, hM⟩
          case measure => simp [intOf]; omega
        have hXk : X.length ≤ 65536 + k := by rw [hX.out, List.length_append]; have := outs_len G R C st k; omega
        cases hrc : rB c
        · have t0 : (bits BinOp.and IntKind.u8 c 4 != 0) = false := hrc
          have HQ : Hid (false = pend G R st (k + 1)) := by show _ = _; rw [pend_prog hst (by rw [hrk, hrc])]
          have HE : Hid (X ++ [1] = ms ++ outs G R C st (k + 1)) := by
            show _ = _
            rw [outs, if_neg hst, ← List.append_assoc, ← hX.out, mk, hrk, hrc, HO.out]; simp
          clear hrk hck hX HO hrc
          go_wp2_with (at_builtin; refine wpList_append_lies _ rfl (.tmp 46) (.tmp 47) 38 rfl base 39 i0 (.int .u8 0) 1 1 Try.underlying38 hi hz0 hz1 hz2 rfl (by decide) (.slice (some ⟨gv, 0, none⟩) X.length cv) X.length (X.map (Value.int .u8)) rfl (hM.own.alloc _) ⟨wr.heap.size, 0, none⟩ 1 1 [.int .u8 1] rfl rfl (cell_one_new _ _ _) (one_u8 1) Nat.one_pos (by unfold maxLen; omega) (by omega) (by have := hM.room; simp; omega) (wr.heap.size + 1) (by simp) ?_; intro g cap w1 hown1 hgrow hat hltg)
          have hM' := hM.push hMb hown1 hgrow hat
          clear hown1 hgrow hat hM hMb ck
          go_wp2
          go_roundw
          case rel => exact ⟨k + 1, X ++ [1], false, by omega, by go_num, rfl, HQ, HE, by simp; omega, by simpa using hM'⟩
          case measure => simp [intOf]; omega
        · have t0 : (bits BinOp.and IntKind.u8 c 4 != 0) = true := hrc
          have HQ : Hid (true = pend G R st (k + 1)) := by show _ = _; rw [pend_on (.inr (by rw [hrk, hrc])), HO.out]
          have HE : Hid (X ++ [2] = ms ++ outs G R C st (k + 1)) := by
            show _ = _
            rw [outs, if_neg hst, ← List.append_assoc, ← hX.out, mk, hrk, hrc]; simp
          clear hrk hck hX HO hrc
          go_wp2_with (at_builtin; refine wpList_append_lies _ rfl (.tmp 36) (.tmp 37) 38 rfl base 39 i0 (.int .u8 0) 1 1 Try.underlying38 hi hz0 hz1 hz2 rfl (by decide) (.slice (some ⟨gv, 0, none⟩) X.length cv) X.length (X.map (Value.int .u8)) rfl (hM.own.alloc _) ⟨wr.heap.size, 0, none⟩ 1 1 [.int .u8 2] rfl rfl (cell_one_new _ _ _) (one_u8 2) Nat.one_pos (by unfold maxLen; omega) (by omega) (by have := hM.room; simp; omega) (wr.heap.size + 1) (by simp) ?_; intro g cap w1 hown1 hgrow hat hltg)
          have hM' := hM.push hMb hown1 hgrow hat
          clear hown1 hgrow hat hM hMb ck
          go_wp2
          go_roundw
          case rel => exact ⟨k + 1, X ++ [2], true, by omega, by go_num, rfl, HQ, HE, by simp; omega, by simpa using hM'⟩
          case measure => simp [intOf]; omega
      · have HO : Hid ((pend G R st k || G k) = false) := by
          show _ = _
          rw [← hp.out, hgk]; simp [hgc]
        clear hgk hp
        by_cases hst : (k : Int) < st
        · have HE : Hid (X = ms ++ outs G R C st (k + 1)) := by show X = _; rw [outs, if_pos hst]; exact hX.out
          have HQ : Hid (false = pend G R st (k + 1)) := by show _ = _; rw [pend_on (.inl hst), HO.out]
          clear hrk hck hX HO
          go_wp2
          go_roundw
          case rel => exact ⟨k + 1, X, false, by omega, by go_num, rfl, HQ, HE, hXl, hM⟩
          case measure => simp [intOf]; omega
        have hXk : X.length ≤ 65536 + k := by rw [hX.out, List.length_append]; have := outs_len G R C st k; omega
        cases hrc : rB c
        · have t0 : (bits BinOp.and IntKind.u8 c 4 != 0) = false := hrc
          have HQ : Hid (false = pend G R st (k + 1)) := by show _ = _; rw [pend_prog hst (by rw [hrk, hrc])]
          cases hcc2 : cB c
          · have t2 : (bits BinOp.and IntKind.u8 c 1 != 0) = false := hcc2
            have HE : Hid (X ++ [0] = ms ++ outs G R C st (k + 1)) := by
              show _ = _
              rw [outs, if_neg hst, ← List.append_assoc, ← hX.out, mk, hrk, hrc, HO.out, hck, hcc2]; simp
            clear hrk hck hX HO hrc hcc2
            go_wp2_with (at_builtin; refine wpList_append_lies _ rfl (.tmp 25) (.tmp 26) 38 rfl base 39 i0 (.int .u8 0) 1 1 Try.underlying38 hi hz0 hz1 hz2 rfl (by decide) (.slice (some ⟨gv, 0, none⟩) X.length cv) X.length (X.map (Value.int .u8)) rfl (hM.own.alloc _) ⟨wr.heap.size, 0, none⟩ 1 1 [.int .u8 0] rfl rfl (cell_one_new _ _ _) (one_u8 0) Nat.one_pos (by unfold maxLen; omega) (by omega) (by have := hM.room; simp; omega) (wr.heap.size + 1) (by simp) ?_; intro g cap w1 hown1 hgrow hat hltg)
            have hM' := hM.push hMb hown1 hgrow hat
            clear hown1 hgrow hat hM hMb ck
            go_wp2
            go_roundw
            case rel => exact ⟨k + 1, X ++ [0], false, by omega, by go_num, rfl, HQ, HE, by simp; omega, by simpa using hM'⟩
            case measure => simp [intOf]; omega
          · have t2 : (bits BinOp.and IntKind.u8 c 1 != 0) = true := hcc2
            have HE : Hid (X ++ [1] = ms ++ outs G R C st (k + 1)) := by
              show _ = _
              rw [outs, if_neg hst, ← List.append_assoc, ← hX.out, mk, hrk, hrc, HO.out, hck, hcc2]; simp
            clear hrk hck hX HO hrc hcc2
            go_wp2_with (at_builtin; refine wpList_append_lies _ rfl (.tmp 46) (.tmp 47) 38 rfl base 39 i0 (.int .u8 0) 1 1 Try.underlying38 hi hz0 hz1 hz2 rfl (by decide) (.slice (some ⟨gv, 0, none⟩) X.length cv) X.length (X.map (Value.int .u8)) rfl (hM.own.alloc _) ⟨wr.heap.size, 0, none⟩ 1 1 [.int .u8 1] rfl rfl (cell_one_new _ _ _) (one_u8 1) Nat.one_pos (by unfold maxLen; omega) (by omega) (by have := hM.room; simp; omega) (wr.heap.size + 1) (by simp) ?_; intro g cap w1 hown1 hgrow hat hltg)
            have hM' := hM.push hMb hown1 hgrow hat
            clear hown1 hgrow hat hM hMb ck
            go_wp2
            go_roundw
            case rel => exact ⟨k + 1, X ++ [1], false, by omega, by go_num, rfl, HQ, HE, by simp; omega, by simpa using hM'⟩
            case measure => simp [intOf]; omega
        · have t0 : (bits BinOp.and IntKind.u8 c 4 != 0) = true := hrc
          have HQ : Hid (false = pend G R st (k + 1)) := by show _ = _; rw [pend_on (.inr (by rw [hrk, hrc])), HO.out]
          have HE : Hid (X ++ [2] = ms ++ outs G R C st (k + 1)) := by
            show _ = _
            rw [outs, if_neg hst, ← List.append_assoc, ← hX.out, mk, hrk, hrc]; simp
          clear hrk hck hX HO hrc
          go_wp2_with (at_builtin; refine wpList_append_lies _ rfl (.tmp 36) (.tmp 37) 38 rfl base 39 i0 (.int .u8 0) 1 1 Try.underlying38 hi hz0 hz1 hz2 rfl (by decide) (.slice (some ⟨gv, 0, none⟩) X.length cv) X.length (X.map (Value.int .u8)) rfl (hM.own.alloc _) ⟨wr.heap.size, 0, none⟩ 1 1 [.int .u8 2] rfl rfl (cell_one_new _ _ _) (one_u8 2) Nat.one_pos (by unfold maxLen; omega) (by omega) (by have := hM.room; simp; omega) (wr.heap.size + 1) (by simp) ?_; intro g cap w1 hown1 hgrow hat hltg)
          have hM' := hM.push hMb hown1 hgrow hat
          clear hown1 hgrow hat hM hMb ck
          go_wp2
          go_roundw
          case rel => exact ⟨k + 1, X ++ [2], false, by omega, by go_num, rfl, HQ, HE, by simp; omega, by simpa using hM'⟩
          case measure => simp [intOf]; omega
    · obtain rfl : k = n := by omega
      have hXk : X.length ≤ 65536 + k := by rw [hX.out, List.length_append]; have := outs_len G R C st k; omega
      cases hpg : (p || gap)
      · have hp0 : p = false := by cases p; rfl; simp at hpg
        have hg0 : gap = false := by cases gap; rfl; simp at hpg
        have HE : Hid (X ++ [0] = ms ++ (outs G R C st k ++ [fin G R st gap k])) := by
          show _ = _
          rw [fin, ← hp.out, hpg, hX.out]; simp
        subst hp0 hg0
        clear hpg hp hX
        go_wp2_with (at_builtin; refine wpList_append_lies _ rfl (.tmp 57) (.tmp 58) 38 rfl base 39 i0 (.int .u8 0) 1 1 Try.underlying38 hi hz0 hz1 hz2 rfl (by decide) (.slice (some ⟨gv, 0, none⟩) X.length cv) X.length (X.map (Value.int .u8)) rfl (hM.own.alloc _) ⟨wr.heap.size, 0, none⟩ 1 1 [.int .u8 0] rfl rfl (cell_one_new _ _ _) (one_u8 0) Nat.one_pos (by unfold maxLen; omega) (by omega) (by have := hM.room; simp; omega) (wr.heap.size + 1) (by simp) ?_; intro g cap w1 hown1 hgrow hat hltg)
        have hM' := hM.push hMb hown1 hgrow hat
        clear hown1 hgrow hat hM hMb
        go_wp2
        go_ret
        rw [← HE.out]
        exact ⟨g, cap, by simp, by simpa using hM'.own, hM'.below⟩
      · have HE : Hid (X ++ [1] = ms ++ (outs G R C st k ++ [fin G R st gap k])) := by
          show _ = _
          rw [fin, ← hp.out, hpg, hX.out]; simp
        clear hp hX
        cases p
        · have hg0 : gap = true := by simpa using hpg
          subst hg0
          clear hpg
          go_wp2_with (at_builtin; refine wpList_append_lies _ rfl (.tmp 54) (.tmp 55) 38 rfl base 39 i0 (.int .u8 0) 1 1 Try.underlying38 hi hz0 hz1 hz2 rfl (by decide) (.slice (some ⟨gv, 0, none⟩) X.length cv) X.length (X.map (Value.int .u8)) rfl (hM.own.alloc _) ⟨wr.heap.size, 0, none⟩ 1 1 [.int .u8 1] rfl rfl (cell_one_new _ _ _) (one_u8 1) Nat.one_pos (by unfold maxLen; omega) (by omega) (by have := hM.room; simp; omega) (wr.heap.size + 1) (by simp) ?_; intro g cap w1 hown1 hgrow hat hltg)
          have hM' := hM.push hMb hown1 hgrow hat
          clear hown1 hgrow hat hM hMb
          go_wp2
          go_ret
          rw [← HE.out]
          exact ⟨g, cap, by simp, by simpa using hM'.own, hM'.below⟩
        clear hpg
        go_wp2_with (at_builtin; refine wpList_append_lies _ rfl (.tmp 54) (.tmp 55) 38 rfl base 39 i0 (.int .u8 0) 1 1 Try.underlying38 hi hz0 hz1 hz2 rfl (by decide) (.slice (some ⟨gv, 0, none⟩) X.length cv) X.length (X.map (Value.int .u8)) rfl (hM.own.alloc _) ⟨wr.heap.size, 0, none⟩ 1 1 [.int .u8 1] rfl rfl (cell_one_new _ _ _) (one_u8 1) Nat.one_pos (by unfold maxLen; omega) (by omega) (by have := hM.room; simp; omega) (wr.heap.size + 1) (by simp) ?_; intro g cap w1 hown1 hgrow hat hltg)
        have hM' := hM.push hMb hown1 hgrow hat
        clear hown1 hgrow hat hM hMb
        go_wp2
        go_ret
        rw [← HE.out]
        exact ⟨g, cap, by simp, by simpa using hM'.own, hM'.below⟩
end Go.Proofs.Qxb6603712a

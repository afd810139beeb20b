/-
  The plain law of FnAppendMarksByWord: no Go in sight. G i: word i stands behind a gap; R i: it is in a redirection; C i: it changes; st: the command word's place.
-/
namespace Go.Proofs.Qxb6603712a

/-- Does an expansion that left no word stand before word i, the words before i read? -/
def pend (G R : Nat → Bool) (st : Int) : Nat → Bool
  | 0 => false
  | i + 1 => if (i : Int) < st then (pend G R st i || G i) else if R i = true then (pend G R st i || G i) else false
/-- The mark of word i. -/
def mk (G R C : Nat → Bool) (st : Int) (i : Nat) : Int := if R i = true then 2 else if (pend G R st i || G i || C i) = true then 1 else 0
/-- The marks of the first i words, from the command word on. -/
def outs (G R C : Nat → Bool) (st : Int) : Nat → List Int
  | 0 => []
  | i + 1 => if (i : Int) < st then outs G R C st i else outs G R C st i ++ [mk G R C st i]
/-- The last mark. -/
def fin (G R : Nat → Bool) (st : Int) (gap : Bool) (n : Nat) : Int := if (pend G R st n || gap) = true then 1 else 0
/-- What zzGapPending answers at i, of n words. -/
def waits (G R : Nat → Bool) (st : Int) (n i : Nat) : Bool := pend G R st i || (decide (i < n) && G i)

theorem outs_len (G R C : Nat → Bool) (st : Int) : ∀ i, (outs G R C st i).length ≤ i
  | 0 => Nat.le_refl _
  | i + 1 => by
    have := outs_len G R C st i
    rw [outs]
    split
    · omega
    · rw [List.length_append]; simp; omega

theorem outs_pre (G R C : Nat → Bool) (st : Int) (i : Nat) : ∀ d, ∃ r, outs G R C st (i + d) = outs G R C st i ++ r
  | 0 => ⟨[], by simp⟩
  | d + 1 => by
    obtain ⟨r, hr⟩ := outs_pre G R C st i d
    rw [← Nat.add_assoc, outs]
    split
    · exact ⟨r, hr⟩
    · exact ⟨r ++ [mk G R C st (i + d)], by rw [hr, List.append_assoc]⟩

/-- The mark of word i stands in the answer behind those of the words before it. -/
theorem outs_at (G R C : Nat → Bool) (st : Int) {i n : Nat} (h : i < n) (hs : ¬ (i : Int) < st) (ms tl : List Int) :
    (ms ++ (outs G R C st n ++ tl))[ms.length + (outs G R C st i).length]? = some (mk G R C st i) := by
  obtain ⟨r, hr⟩ := outs_pre G R C st (i + 1) (n - (i + 1))
  rw [show i + 1 + (n - (i + 1)) = n by omega] at hr
  rw [outs, if_neg hs] at hr
  rw [hr, List.getElem?_append_right (by omega), Nat.add_sub_cancel_left]
  simp
theorem outs_room (G R C : Nat → Bool) (st : Int) {i n : Nat} (h : i < n) (hs : ¬ (i : Int) < st) : (outs G R C st i).length < (outs G R C st n).length := by
  obtain ⟨r, hr⟩ := outs_pre G R C st (i + 1) (n - (i + 1))
  rw [show i + 1 + (n - (i + 1)) = n by omega] at hr
  rw [outs, if_neg hs] at hr
  rw [hr]
  simp
end Go.Proofs.Qxb6603712a

import GoSem.Op.String
namespace Go.Proofs.Qxb6603565a
open Go

theorem bl_irrefl (a : List UInt8) : Op.bytesLess a a = false := by
  induction a with
  | nil => rfl
  | cons x a ih => simp [Op.bytesLess, ih]

theorem bl_asymm : ∀ a b : List UInt8, Op.bytesLess a b = true → Op.bytesLess b a = false
  | [], [], h => by simp [Op.bytesLess] at h
  | [], _ :: _, _ => rfl
  | _ :: _, [], h => by simp [Op.bytesLess] at h
  | x :: a, y :: b, h => by
    simp only [Op.bytesLess, Bool.or_eq_true, decide_eq_true_eq, Bool.and_eq_true, beq_iff_eq] at h
    simp only [Op.bytesLess, Bool.or_eq_false_iff, decide_eq_false_iff_not, Bool.and_eq_false_iff, beq_eq_false_iff_ne]
    rcases h with h | ⟨rfl, h⟩
    · have h' := UInt8.lt_iff_toNat_lt.1 h
      refine ⟨fun k => ?_, .inl fun k => ?_⟩
      · have := UInt8.lt_iff_toNat_lt.1 k; omega
      · subst k; omega
    · exact ⟨fun k => by have := UInt8.lt_iff_toNat_lt.1 k; omega, .inr (bl_asymm a b h)⟩

theorem bl_total : ∀ a b : List UInt8, a ≠ b → Op.bytesLess a b = false → Op.bytesLess b a = true
  | [], [], h, _ => absurd rfl h
  | [], _ :: _, _, h => by simp [Op.bytesLess] at h
  | _ :: _, [], _, _ => rfl
  | x :: a, y :: b, hn, h => by
    simp only [Op.bytesLess, Bool.or_eq_false_iff, decide_eq_false_iff_not, Bool.and_eq_false_iff, beq_eq_false_iff_ne] at h
    simp only [Op.bytesLess, Bool.or_eq_true, decide_eq_true_eq, Bool.and_eq_true, beq_iff_eq]
    by_cases e : x = y
    · subst e
      refine .inr ⟨rfl, bl_total a b (fun k => hn (by rw [k])) ?_⟩
      rcases h.2 with k | k
      · exact absurd rfl k
      · exact k
    · left
      rw [UInt8.lt_iff_toNat_lt]
      have h1 := h.1
      rw [UInt8.lt_iff_toNat_lt] at h1
      have : x.toNat ≠ y.toNat := fun k => e (UInt8.toNat_inj.1 k)
      omega

theorem bl_trans : ∀ a b c : List UInt8, Op.bytesLess a b = true → Op.bytesLess b c = true → Op.bytesLess a c = true
  | [], [], _, h, _ => by simp [Op.bytesLess] at h
  | [], _ :: _, [], _, h => by simp [Op.bytesLess] at h
  | [], _ :: _, _ :: _, _, _ => rfl
  | _ :: _, [], _, h, _ => by simp [Op.bytesLess] at h
  | _ :: _, _ :: _, [], _, h => by simp [Op.bytesLess] at h
  | x :: a, y :: b, z :: c, h, k => by
    simp only [Op.bytesLess, Bool.or_eq_true, decide_eq_true_eq, Bool.and_eq_true, beq_iff_eq, UInt8.lt_iff_toNat_lt] at h k ⊢
    rcases h with h | ⟨rfl, h⟩ <;> rcases k with k | ⟨rfl, k⟩
    · left; omega
    · left; omega
    · left; omega
    · exact .inr ⟨rfl, bl_trans a b c h k⟩
/-- The lexicographic order of lists of numbers, a proper prefix first. -/
def ltI : List Int → List Int → Bool
  | _, [] => false
  | [], _ :: _ => true
  | a :: x, b :: y => if a = b then ltI x y else decide (a < b)

/-- A string's bytes as numbers. -/
def nums (l : List UInt8) : List Int := l.map fun c => (c.toNat : Int)

theorem ltI_nums : ∀ a b : List UInt8, ltI (nums a) (nums b) = Op.bytesLess a b
  | [], [] => rfl
  | _ :: _, [] => rfl
  | [], _ :: _ => rfl
  | x :: a, y :: b => by
    have ih := ltI_nums a b
    simp only [nums, List.map_cons, ltI, Op.bytesLess] at *
    by_cases e : x = y
    · subst e; simp [ih]
    · have h : x.toNat ≠ y.toNat := fun k => e (UInt8.toNat_inj.1 k)
      have h' : ¬ (x.toNat : Int) = y.toNat := by omega
      rw [if_neg h']
      have e1 : (x == y) = false := by simp [e]
      rw [e1, Bool.false_and, Bool.or_false]
      have : (x < y) ↔ (x.toNat : Int) < y.toNat := by rw [UInt8.lt_iff_toNat_lt]; omega
      simp only [this]

def dig (l : List Int) : Prop := ∀ c ∈ l, 0 ≤ c ∧ c < 256
def val : List Int → Int
  | [] => 0
  | c :: l => c * 256 ^ l.length + val l

theorem val_bd : ∀ l : List Int, dig l → 0 ≤ val l ∧ val l < 256 ^ l.length
  | [], _ => by simp [val]
  | c :: l, h => by
    have ih := val_bd l (fun x hx => h x (by simp [hx]))
    have hc := h c (by simp)
    simp only [val, List.length_cons]
    have hp : (0 : Int) < 256 ^ l.length := Int.pow_pos (by decide)
    rw [Int.pow_succ]
    generalize (256 : Int) ^ l.length = p at *
    have h1 : 0 ≤ c * p := Int.mul_nonneg hc.1 (by omega)
    have h2 : c * p ≤ 255 * p := Int.mul_le_mul_of_nonneg_right (by omega) (by omega)
    omega

theorem ltI_val : ∀ d e : List Int, d.length = e.length → dig d → dig e → ∀ x y : List Int, ltI (d ++ x) (e ++ y) = if val d = val e then ltI x y else decide (val d < val e)
  | [], [], _, _, _, x, y => by simp [val]
  | c :: d, f :: e, hl, hd, he, x, y => by
    have hl' : d.length = e.length := by simpa using hl
    have hd' : dig d := fun z hz => hd z (by simp [hz])
    have he' : dig e := fun z hz => he z (by simp [hz])
    have ih := ltI_val d e hl' hd' he' x y
    have b1 := val_bd d hd'
    have b2 := val_bd e he'
    have v1 : val (c :: d) = c * 256 ^ d.length + val d := rfl
    have v2 : val (f :: e) = f * 256 ^ d.length + val e := by rw [hl']; rfl
    rw [← hl'] at b2
    have hp : (0 : Int) < 256 ^ d.length := Int.pow_pos (by decide)
    generalize (256 : Int) ^ d.length = p at *
    generalize val (c :: d) = A at *
    generalize val (f :: e) = B at *
    simp only [List.cons_append, ltI]
    by_cases h : c = f
    · subst h
      rw [if_pos rfl, ih]
      by_cases hv : val d = val e
      · rw [if_pos hv, if_pos (by omega)]
      · rw [if_neg hv, if_neg (by omega)]
        congr 1
        apply propext; omega
    · rw [if_neg h]
      rcases (show c < f ∨ f < c by omega) with k | k
      · have : (c + 1) * p ≤ f * p := Int.mul_le_mul_of_nonneg_right (by omega) (by omega)
        rw [Int.add_mul, Int.one_mul] at this
        rw [if_neg (by omega), decide_eq_true k, decide_eq_true (by omega)]
      · have : (f + 1) * p ≤ c * p := Int.mul_le_mul_of_nonneg_right (by omega) (by omega)
        rw [Int.add_mul, Int.one_mul] at this
        rw [if_neg (by omega), decide_eq_false (by omega), decide_eq_false (by omega)]

/-- A round in eight bytes, the greatest first. -/
def be8 (r : Int) : List Int := [r / 72057594037927936 % 256, r / 281474976710656 % 256, r / 1099511627776 % 256, r / 4294967296 % 256, r / 16777216 % 256, r / 65536 % 256, r / 256 % 256, r % 256]

theorem be8_dig (r : Int) : dig (be8 r) := by
  intro c hc
  simp only [be8, List.mem_cons, List.not_mem_nil, or_false] at hc
  omega

theorem be8_val (r : Int) (h0 : 0 ≤ r) (h1 : r < 18446744073709551616) : val (be8 r) = r := by
  simp only [be8, val, List.length_cons, List.length_nil]
  have e1 : (256 : Int) ^ (0 + 1) = 256 := rfl
  have e2 : (256 : Int) ^ (0 + 1 + 1) = 65536 := rfl
  have e3 : (256 : Int) ^ (0 + 1 + 1 + 1) = 16777216 := rfl
  have e4 : (256 : Int) ^ (0 + 1 + 1 + 1 + 1) = 4294967296 := rfl
  have e5 : (256 : Int) ^ (0 + 1 + 1 + 1 + 1 + 1) = 1099511627776 := rfl
  have e6 : (256 : Int) ^ (0 + 1 + 1 + 1 + 1 + 1 + 1) = 281474976710656 := rfl
  have e7 : (256 : Int) ^ (0 + 1 + 1 + 1 + 1 + 1 + 1 + 1) = 72057594037927936 := rfl
  rw [e1, e2, e3, e4, e5, e6, e7, Int.pow_zero]
  omega

end Go.Proofs.Qxb6603565a

/-
  PLAIN MATHEMATICS, no Go: a varint folded from its last byte back to its first is what 'Lib.uvarintDec' decodes.
-/
import Derived.Lib.VarintDec
namespace Go.Proofs.Qxb6613165aFmt

/-- What bytes 0 .. e spell, seven bits a byte, folded from byte e back to byte 0. -/
def back : List UInt8 → Nat → Nat
  | [], _ => 0
  | b :: _, 0 => b.toNat
  | b :: r, e + 1 => b.toNat % 128 + 128 * back r e

theorem back_drop {l : List UInt8} {j e : Nat} (hj : j < e) (he : e < l.length) : back (l.drop j) (e - j) = (l.getD j 0).toNat % 128 + 128 * back (l.drop (j + 1)) (e - (j + 1)) := by
  rw [List.drop_eq_getElem_cons (by omega), show e - j = (e - (j + 1)) + 1 by omega, back]
  simp [List.getD, List.getElem?_eq_getElem (show j < l.length by omega)]

theorem back_last {l : List UInt8} {e : Nat} (he : e < l.length) : back (l.drop e) 0 = (l.getD e 0).toNat := by
  rw [List.drop_eq_getElem_cons he, back]
  simp [List.getD, List.getElem?_eq_getElem he]

theorem back_bound : ∀ (e : Nat) (l : List UInt8), e < l.length → back l e < ((l.getD e 0).toNat + 1) * 128 ^ e
  | 0, l, h => by
    match l, h with
    | b :: r, _ => simp [back]
  | e + 1, l, h => by
    match l, h with
    | b :: r, h =>
      have ih := back_bound e r (by simpa using h)
      simp only [back, List.getD_cons_succ]
      have h2 : (128 : Nat) ^ (e + 1) = 128 * 128 ^ e := by rw [Nat.pow_succ]; omega
      rw [h2, Nat.mul_left_comm]
      have := Nat.mod_lt b.toNat (show 0 < 128 by omega)
      generalize (r.getD e 0).toNat + 1 = x at *
      generalize 128 ^ e = y at *
      generalize x * y = z at *
      omega

theorem back_lt {e : Nat} {l : List UInt8} (he : e < l.length) (h9 : e ≤ 9) (hl : (l.getD e 0).toNat < 128) (hn : e = 9 → (l.getD e 0).toNat ≤ 1) : back l e < 18446744073709551616 := by
  have hb := back_bound e l he
  generalize (l.getD e 0).toNat = x at *
  have hs : e = 0 ∨ e = 1 ∨ e = 2 ∨ e = 3 ∨ e = 4 ∨ e = 5 ∨ e = 6 ∨ e = 7 ∨ e = 8 ∨ e = 9 := by omega
  rcases hs with rfl | rfl | rfl | rfl | rfl | rfl | rfl | rfl | rfl | rfl
  all_goals first | omega | (have := hn rfl; omega)

theorem dec_hit : ∀ (e : Nat) (l : List UInt8) (i acc : Nat), e < l.length → (∀ j, j < e → 128 ≤ (l.getD j 0).toNat) → (l.getD e 0).toNat < 128 → i + e ≤ 9 → ¬ (i + e = 9 ∧ 1 < (l.getD e 0).toNat) →
    Lib.uvarintFrom i acc l = (acc + back l e * 2 ^ (7 * i), (i : Int) + e + 1)
  | 0, l, i, acc, h, _, hl, hi, hn => by
    match l, h with
    | b :: r, _ =>
      simp at hl hn
      simp only [Lib.uvarintFrom, back]
      rw [if_neg (by omega), if_pos hl, if_neg (by rintro ⟨h1, h2⟩; have := hn h1; omega)]
      simp
  | e + 1, l, i, acc, h, hb, hl, hi, hn => by
    match l, h with
    | b :: r, h =>
      have h0 := hb 0 (by omega)
      simp only [List.getD_cons_zero] at h0
      simp only [List.getD_cons_succ] at hl hn
      have ih := dec_hit e r (i + 1) (acc + b.toNat % 128 * 2 ^ (7 * i)) (by simpa using h) (fun j hj => by have := hb (j + 1) (by omega); simpa using this) hl (by omega) (by rintro ⟨h1, h2⟩; exact hn ⟨by omega, h2⟩)
      simp only [Lib.uvarintFrom]
      rw [if_neg (by omega), if_neg (by omega), ih]
      have hp : (2 : Nat) ^ (7 * (i + 1)) = 128 * 2 ^ (7 * i) := by rw [show 7 * (i + 1) = 7 + 7 * i by omega, Nat.pow_add]
      refine Prod.ext ?_ ?_
      · simp only [back]
        rw [hp, Nat.add_mul, Nat.mul_assoc 128, Nat.mul_left_comm]
        omega
      · simp only [Int.natCast_add]; omega

theorem dec_over : ∀ (e : Nat) (l : List UInt8) (i acc : Nat), e < l.length → (∀ j, j < e → 128 ≤ (l.getD j 0).toNat) → (l.getD e 0).toNat < 128 → i + e = 9 → 1 < (l.getD e 0).toNat → (Lib.uvarintFrom i acc l).2 ≤ 0
  | 0, l, i, acc, h, _, hl, hi, hn => by
    match l, h with
    | b :: r, _ =>
      simp at hl hn
      simp only [Lib.uvarintFrom]
      rw [if_neg (by omega), if_pos hl, if_pos ⟨by omega, hn⟩]
      show -((i : Int) + 1) ≤ 0
      omega
  | e + 1, l, i, acc, h, hb, hl, hi, hn => by
    match l, h with
    | b :: r, h =>
      have h0 := hb 0 (by omega)
      simp only [List.getD_cons_zero] at h0
      simp only [List.getD_cons_succ] at hl hn
      simp only [Lib.uvarintFrom]
      rw [if_neg (by omega), if_neg (by omega)]
      exact dec_over e r (i + 1) _ (by simpa using h) (fun j hj => by have := hb (j + 1) (by omega); simpa using this) hl (by omega) hn

theorem dec_none : ∀ (l : List UInt8) (i acc : Nat), i ≤ 10 → (∀ j, j < l.length → i + j < 10 → 128 ≤ (l.getD j 0).toNat) → (Lib.uvarintFrom i acc l).2 ≤ 0
  | [], i, acc, _, _ => by simp [Lib.uvarintFrom]
  | b :: r, i, acc, hi, hb => by
    simp only [Lib.uvarintFrom]
    by_cases h10 : i = 10
    · rw [if_pos h10]
      show -((i : Int) + 1) ≤ 0
      omega
    · have h0 := hb 0 (by simp) (by omega)
      simp only [List.getD_cons_zero] at h0
      rw [if_neg h10, if_neg (by omega)]
      exact dec_none r (i + 1) _ (by omega) fun j hj h => by have := hb (j + 1) (by simpa using hj) (by omega); simpa using this

/-- What 'modelUvarint' answers. -/
def modelOf (l : List UInt8) : Nat × Int × Bool := if 0 < (Lib.uvarintDec l).2 then ((Lib.uvarintDec l).1, (Lib.uvarintDec l).2, true) else (0, 0, false)

theorem model_none {l : List UInt8} {k : Nat} (hk : k = l.length ∨ k = 10) (hb : ∀ j, j < k → 128 ≤ (l.getD j 0).toNat) : modelOf l = (0, 0, false) := by
  have := dec_none l 0 0 (by omega) (fun j hj h => hb j (by omega))
  unfold modelOf Lib.uvarintDec
  rw [if_neg (by omega)]

theorem model_over {l : List UInt8} (he : 9 < l.length) (hb : ∀ j, j < 9 → 128 ≤ (l.getD j 0).toNat) (hl : (l.getD 9 0).toNat < 128) (hn : 1 < (l.getD 9 0).toNat) : modelOf l = (0, 0, false) := by
  have := dec_over 9 l 0 0 he hb hl rfl hn
  unfold modelOf Lib.uvarintDec
  rw [if_neg (by omega)]

theorem model_hit {l : List UInt8} {e : Nat} (he : e < l.length) (h9 : e ≤ 9) (hb : ∀ j, j < e → 128 ≤ (l.getD j 0).toNat) (hl : (l.getD e 0).toNat < 128) (hn : ¬ (e = 9 ∧ 1 < (l.getD e 0).toNat)) : modelOf l = (back l e, (e : Int) + 1, true) := by
  have := dec_hit e l 0 0 he hb hl (by omega) (by rintro ⟨h1, h2⟩; exact hn ⟨by omega, h2⟩)
  unfold modelOf Lib.uvarintDec
  rw [this, if_pos (by show (0 : Int) < ((0 : Nat) : Int) + (e : Int) + 1; omega)]
  simp

/-- A decoded varint takes no more bytes than there are. -/
theorem dec_le : ∀ (l : List UInt8) (i acc : Nat), (Lib.uvarintFrom i acc l).2 ≤ (i : Int) + l.length
  | [], i, acc => by simp [Lib.uvarintFrom]
  | b :: r, i, acc => by
    simp only [Lib.uvarintFrom, List.length_cons]
    have ih := dec_le r (i + 1) (acc + b.toNat % 128 * 2 ^ (7 * i))
    split
    · show -((i : Int) + 1) ≤ _; omega
    split
    · split
      · show -((i : Int) + 1) ≤ _; omega
      · show (i : Int) + 1 ≤ _; omega
    · omega
end Go.Proofs.Qxb6613165aFmt

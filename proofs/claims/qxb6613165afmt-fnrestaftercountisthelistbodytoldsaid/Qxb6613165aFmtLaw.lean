import Derived.Test.Qxb6613165aFmtCount
namespace Go.Proofs.Qxb6613165aFmt
open Go.Extern.Stop Go.Stop Go.Extern
open Go.ChangeShapes Go.WideShapes Go.ChangeAt Go.RowKit

/-- Where a slice has an element its bytes lie at an address. -/
def BytesAt (w : World) (a : Option Addr) (n : Nat) (l : List UInt8) : Prop :=
  0 < n → ∃ g o, a = some ⟨g, o, none⟩ ∧ ∀ j, j < n → w.cell? ⟨g, o + j, none⟩ = some (.int .u8 (l.getD j 0).toNat)

theorem BytesAt.later {w w' : World} {a : Option Addr} {n : Nat} {l : List UInt8} (h : BytesAt w a n l) {B : Nat} (hb : Below B w w') (hB : ∀ g o, a = some ⟨g, o, none⟩ → g < B) : BytesAt w' a n l := by
  intro h0
  obtain ⟨g, o, rfl, hc⟩ := h h0
  exact ⟨g, o, rfl, fun j hj => (hb.cell (p := ⟨g, o + j, none⟩) (hB g o rfl)).trans (hc j hj)⟩

theorem model_at (a : Option Addr) (n c : Nat) (l : List UInt8) (w : World) (hn : n ≤ 1048576) (hl : l.length = n) (h : BytesAt w a n l) :
    Calls Tryf.prog 9 #[.slice a n c] w fun e w' => e = .returned (.tuple #[.int .u64 (modelOf l).1, .int .i64 (modelOf l).2.1, .bool (modelOf l).2.2]) ∧ w = w' := by
  by_cases h0 : n = 0
  · subst h0
    obtain rfl : l = [] := List.eq_nil_of_length_eq_zero hl
    exact model_empty a c w
  · obtain ⟨g, o, rfl, hc⟩ := h (by omega)
    exact model_any g o c n l w hn hl hc

theorem same_at (a b : Option Addr) (ca cb n : Nat) (l : List UInt8) (w : World) (hn : n ≤ 1048576) (h1 : BytesAt w a n l) (h2 : BytesAt w b n l) :
    Calls Tryf.prog 10 #[.slice a n ca, .slice b n cb] w fun e w' => e = .returned (.bool true) ∧ Below w.heap.size w w' := by
  by_cases h0 : n = 0
  · subst h0; exact same_zero a b ca cb w
  · obtain ⟨g1, o1, rfl, hc1⟩ := h1 (by omega)
    obtain ⟨g2, o2, rfl, hc2⟩ := h2 (by omega)
    exact same_some g1 o1 ca g2 o2 cb n l w hn (by omega) hc1 hc2

theorem modelOf_bad {l : List UInt8} (h : (Lib.uvarintDec l).2 ≤ 0) : modelOf l = (0, 0, false) := by unfold modelOf; rw [if_neg (by omega)]
theorem modelOf_ok {l : List UInt8} {k : Nat} (hk : (Lib.uvarintDec l).2 = k) (h : 0 < k) : modelOf l = ((Lib.uvarintDec l).1, (k : Int), true) := by unfold modelOf; rw [if_pos (by omega), hk]

theorem law_great (a : Option Addr) (n c : Nat) (w : World) (h : 1048576 < n) : Calls Tryf.prog 3 #[.slice a n c] w fun e w' => e = .returned (.bool true) ∧ Below w.heap.size w w' := by
  go_enter Tryf.func3, Tryf.ntmps3
  go_wp2_with (go_at_call 4; refine (zz_great _ _ _ _ h).mono ?_; rintro e w' ⟨rfl, rfl⟩)
  go_ret
  exact ⟨rfl, Below.refl _ _⟩

/-- The copy, whatever the slice. -/
theorem copy_at (a : Option Addr) (n c : Nat) (l : List UInt8) (w : World) (hn : n ≤ 1048576) (hl : l.length = n) (ha : (a = none ∧ n = 0) ∨ ∃ ad, a = some ad ∧ ∀ j, j < n → w.cell? (ad.add j) = some (.int .u8 (l.getD j 0).toNat)) :
    Calls Tryf.prog 5 #[.slice a n c] w fun e w' => ∃ a' c', e = .returned (.slice a' n c') ∧ n ≤ c' ∧ c' ≤ 1048576 ∧ (∀ g o, a' = some ⟨g, o, none⟩ → w.heap.size ≤ g ∧ g < w'.heap.size) ∧ BytesAt w' a' n l ∧ Below w.heap.size w w' := by
  rcases ha with ⟨rfl, rfl⟩ | ⟨ad, rfl, hc⟩
  · refine (copy_nil c w).mono fun e w' ⟨he, hw⟩ => ?_
    subst hw
    exact ⟨none, 0, he, Nat.le_refl _, Nat.zero_le _, (fun _ _ h => nomatch h), (fun h => absurd h (by omega)), Below.refl _ _⟩
  · refine (copy_some ad n c l w hn hl hc).mono fun e w' ⟨he, hr, hb⟩ => ⟨_, n, he, Nat.le_refl _, hn, fun g o h => ?_, fun _ => ⟨_, 0, rfl, fun j hj => ?_⟩, hb⟩
    · cases h; exact ⟨Nat.le_refl _, (Array.getElem?_eq_some_iff.1 hr).1⟩
    · rw [Nat.zero_add]; exact bytes_cell hr j (by omega)

set_option maxHeartbeats 800000 in
theorem law_in (F : Interp) (a : Option Addr) (n c : Nat) (l : List UInt8) (ae : Addr) (s : ByteArray) (w : World) (hF : F.answers w.tape) (hn : n ≤ 1048576) (hcap : n ≤ c) (hl : l.length = n)
    (ha : (a = none ∧ n = 0) ∨ ∃ ad, a = some ad ∧ ∀ j, j < n → w.cell? (ad.add j) = some (.int .u8 (l.getD j 0).toNat))
    (hg : w.cell? ⟨0, 0, none⟩ = some (.iface 50 (.pointer (some ae)))) (hs : w.cell? ae = some (.string s)) :
    Calls Tryf.prog 3 #[.slice a n c] w fun e w' => e = .returned (.bool true) ∧ Below w.heap.size w w' := by
  have hA : BytesAt w a n l := by
    intro h0
    rcases ha with ⟨_, h⟩ | ⟨ad, rfl, hc⟩
    · omega
    · have hspot : ad.spot = none := by simpa [Addr.add] using World.cell?_spot (hc 0 h0)
      obtain ⟨b, off, spot⟩ := ad
      obtain rfl : spot = none := hspot
      exact ⟨b, off, rfl, fun j hj => by have := hc j hj; rwa [Addr.add_lit] at this⟩
  have hAlt : 0 < n → ∀ g o, a = some ⟨g, o, none⟩ → g < w.heap.size := by
    rintro h0 g o rfl
    obtain ⟨g', o', e, hc⟩ := hA h0
    cases e
    exact World.block_lt_of_cell? w _ (hc 0 h0)
  have h0w : 0 < w.heap.size := World.block_lt_of_cell? w _ hg
  have haw : ae.block < w.heap.size := World.block_lt_of_cell? w _ hs
  have C5 := hide (copy_at a n c l w hn hl ha)
  have HA := hide hA
  have HALT := hide hAlt
  clear ha hA hAlt
  go_enter Tryf.func3, Tryf.ntmps3
  go_wp2_with (first | (go_at_call 4; refine (zz_small _ _ _ _ hn).mono ?_; rintro e w' ⟨rfl, rfl⟩))
  refine C5.out.mono ?_
  rintro e w1 ⟨a1, c1, rfl, hnc, hc1, hlt1, hB1, hb1⟩
  have C6 := hide (new_any (.slice a1 n c1) ⟨_, _, _, rfl⟩ w1)
  have HLT := hide hlt1
  have HB1 := hide hB1
  clear hlt1 hB1 C5
  go_wp2_with fail
  refine C6.out.mono ?_
  rintro e w2 ⟨rfl, hd2, hb2⟩
  -- the world behind NewDecoder; the decoder's block is w1's next
  have hb12 : Below w.heap.size w w2 := hb1.trans (hb2.mono hb1.size)
  have hB2 : BytesAt w2 a1 n l := HB1.out.later hb2 fun g o h => (HLT.out g o h).2
  have hF2 : F.answers w2.tape := by rw [hb12.tape]; exact hF
  have hg2 := (hb12.cell (p := ⟨0, 0, none⟩) h0w).trans hg
  have hs2 := (hb12.cell (p := ae) haw).trans hs
  have hD0 : 0 < w1.heap.size := by have := hb1.size; omega
  have hDa : ae.block < w1.heap.size := by have := hb1.size; omega
  have hDw : w.heap.size ≤ w1.heap.size := hb1.size
  clear hF hg hs hb1 C6 hb2 HB1
  generalize w1.heap.size = D at *
  by_cases hbad : (Lib.uvarintDec l).2 ≤ 0
  · have C7 := hide (fun items => count_bad F D a1 n c1 l ae s items w2 hF2 hd2 hg2 hs2 hl hB2 hbad)
    have HM := hide (modelOf_bad hbad)
    clear hd2 hB2 hF2 hg2 hs2 hbad
    go_wp2_with fail
    refine (C7.out _).mono ?_
    rintro e w3 ⟨rfl, ev, hd3, hb3⟩
    have C8 := hide (rest_any D _ _ _ w3 hd3)
    clear hd3 C7
    go_wp2_with fail
    refine C8.out.mono ?_
    rintro e w4 ⟨rfl, hb4⟩
    have hb24 : Below D w2 w4 := hb3.trans hb4
    have HB4 := hide (hb12.trans (hb24.mono hDw))
    have c9 := model_at a n c l w4 hn hl (by intro h0; exact (HA.out.later HB4.out (HALT.out h0)) h0)
    rw [HM.out] at c9
    have C9 := hide c9
    clear C8 hb3 hb4 hb24 hb12 c9 HM HA HALT HLT
    go_wp2_with (go_at_call 9; refine C9.out.mono ?_; rintro e w' ⟨rfl, rfl⟩)
    go_ret
    exact ⟨rfl, HB4.out⟩
  · obtain ⟨k, hk⟩ := Int.eq_ofNat_of_zero_le (show 0 ≤ (Lib.uvarintDec l).2 by omega)
    have hk0 : 0 < k := by omega
    have hkn : k ≤ n := by have := dec_le l 0 0; unfold Lib.uvarintDec at hk; omega
    obtain ⟨g, o, rfl, hcell⟩ := hB2 (by omega)
    have HM := hide (modelOf_ok hk hk0)
    have hv64 := Lib.uvarintDec_lt l
    by_cases hfit : (Lib.uvarintDec l).1 ≤ n - k
    · have C7 := hide (fun items => count_fits D g o n c1 l items w2 hn hnc hc1 hd2 hl hcell k hk hk0 hkn hfit)
      have hgD := (HLT.out g o rfl).2
      have HC := hide hcell
      clear hd2 hcell hF2 hg2 hs2 hbad hk
      generalize (Lib.uvarintDec l).1 = v at *
      go_wp2_with fail
      refine (C7.out _).mono ?_
      rintro e w3 ⟨rfl, a', lo, ha', hd3, hb3⟩
      have C8 := hide (rest_any D _ _ _ w3 hd3)
      have HA' := hide ha'
      clear hd3 C7 ha'
      go_wp2_with fail
      refine C8.out.mono ?_
      rintro e w4 ⟨rfl, hb4⟩
      have hb24 : Below D w2 w4 := hb3.trans hb4
      have HB4 := hide (hb12.trans (hb24.mono hDw))
      have hA4 : BytesAt w4 a n l := fun h0 => (HA.out.later HB4.out (HALT.out h0)) h0
      have c9 := model_at a n c l w4 hn hl hA4
      rw [HM.out] at c9
      have C9 := hide c9
      have h1 : BytesAt w4 a' (n - k) (l.drop k) := by
        intro h0
        refine ⟨g, o + k, HA'.out (by omega), fun j hj => ?_⟩
        have := (hb24.cell (p := ⟨g, o + (k + j), none⟩) hgD).trans (HC.out (k + j) (by omega))
        rw [Nat.add_assoc, this]
        simp [List.getD, List.getElem?_drop]
      obtain ⟨b, off, rfl, hc4⟩ := hA4 (by omega)
      have h2 : BytesAt w4 (some ⟨b, off + k, none⟩) (n - k) (l.drop k) := by
        intro h0
        refine ⟨b, off + k, rfl, fun j hj => ?_⟩
        rw [Nat.add_assoc, hc4 (k + j) (by omega)]
        simp [List.getD, List.getElem?_drop]
      clear C8 hb3 hb4 hb24 hb12 c9 HM HA HALT HLT HC
      have hn4 : w.heap.size ≤ w4.heap.size := HB4.out.size
      by_cases hck : c = k
      · obtain rfl : n = k := by omega
        subst hck
        clear h1 h2 hc4 hA4
        go_wp2_with (go_at_call 9; refine C9.out.mono ?_; rintro e w' ⟨rfl, rfl⟩)
        refine (same_zero _ _ _ _ _).mono ?_
        rintro e w5 ⟨rfl, hb5⟩
        go_wp2_with fail
        go_ret
        exact ⟨rfl, HB4.out.trans (hb5.mono hn4)⟩
      · have C10 := hide (same_at a' (some ⟨b, off + k, none⟩) (c1 - k) (c - k) (n - k) (l.drop k) w4 (by omega) h1 h2)
        clear h1 h2 hc4 hA4
        go_wp2_with (go_at_call 9; refine C9.out.mono ?_; rintro e w' ⟨rfl, rfl⟩)
        refine C10.out.mono ?_
        rintro e w5 ⟨rfl, hb5⟩
        go_wp2_with fail
        go_ret
        exact ⟨rfl, HB4.out.trans (hb5.mono hn4)⟩
    · have C7 := hide (fun items => count_over F D g o n c1 l ae s items w2 hF2 hn hnc hc1 hd2 hg2 hs2 hD0 hDa hl hcell k hk hk0 hkn (by omega))
      clear hd2 hcell hF2 hg2 hs2 hbad hk
      generalize (Lib.uvarintDec l).1 = v at *
      go_wp2_with fail
      refine (C7.out _).mono ?_
      rintro e w3 ⟨rfl, ev, lo, hd3, hb3⟩
      have C8 := hide (rest_any D _ _ _ w3 hd3)
      clear hd3 C7
      go_wp2_with fail
      refine C8.out.mono ?_
      rintro e w4 ⟨rfl, hb4⟩
      have hb24 : Below D w2 w4 := hb3.trans hb4
      have HB4 := hide (hb12.trans (hb24.mono hDw))
      have c9 := model_at a n c l w4 hn hl (by intro h0; exact (HA.out.later HB4.out (HALT.out h0)) h0)
      rw [HM.out] at c9
      have C9 := hide c9
      have hnk : (n : Int) - (k : Int) < (v : Int) := by omega
      clear C8 hb3 hb4 hb24 hb12 c9 HM HA HALT HLT
      go_wp2_with (go_at_call 9; refine C9.out.mono ?_; rintro e w' ⟨rfl, rfl⟩)
      go_ret
      exact ⟨rfl, HB4.out⟩
end Go.Proofs.Qxb6613165aFmt

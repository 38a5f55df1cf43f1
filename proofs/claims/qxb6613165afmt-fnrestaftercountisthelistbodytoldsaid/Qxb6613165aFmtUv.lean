import Derived.Test.Qxb6613165aFmtParts
import Derived.Deep.QuietTactic
import Derived.BigQuiet
namespace Go.Proofs.Qxb6613165aFmt
open Go.ChangeShapes Go.WideShapes Go.ChangeAt Go.RowKit

theorem same_zero (a b : Option Addr) (ca cb : Nat) (w : World) : Calls Tryf.prog 10 #[.slice a 0 ca, .slice b 0 cb] w fun e w' => e = .returned (.bool true) ∧ Below w.heap.size w w' := by
  go_enter Tryf.func10, Tryf.ntmps10
  go_wp2
  refine wp_loop_rounds 1 ?_; rw [rounds_succ]
  go_wp2
  go_ret
  exact ⟨rfl, Below.refl _ _⟩

set_option maxHeartbeats 400000 in
theorem same_some (b1 o1 c1 b2 o2 c2 n : Nat) (l : List UInt8) (w : World) (hn : n ≤ 1048576) (h0 : 0 < n) (hc1 : ∀ j, j < n → w.cell? ⟨b1, o1 + j, none⟩ = some (.int .u8 (l.getD j 0).toNat)) (hc2 : ∀ j, j < n → w.cell? ⟨b2, o2 + j, none⟩ = some (.int .u8 (l.getD j 0).toNat)) :
    Calls Tryf.prog 10 #[.slice (some ⟨b1, o1, none⟩) n c1, .slice (some ⟨b2, o2, none⟩) n c2] w fun e w' => e = .returned (.bool true) ∧ Below w.heap.size w w' := by
  have HC1 := hide hc1
  have HC2 := hide hc2
  have hl1 : b1 < w.heap.size := World.block_lt_of_cell? w _ (hc1 0 h0)
  have hl2 : b2 < w.heap.size := World.block_lt_of_cell? w _ (hc2 0 h0)
  clear hc1 hc2
  go_enter Tryf.func10, Tryf.ntmps10
  go_wp2
  go_loopw [5] (fun i wr => ∃ k : Nat, k ≤ n ∧ i = .int .i64 k ∧ Below w.heap.size w wr) (fun i _ => n - (intOf i).toNat)
  case atStart => exact ⟨0, Nat.zero_le _, rfl, Below.refl _ _⟩
  case round =>
    obtain ⟨k, hk, rfl, hb⟩ := hrel
    by_cases hlt : k < n
    · have g1 : wr.cell? ⟨b1, o1 + k, none⟩ = some (.int .u8 (l.getD k 0).toNat) := (hb.cell (by exact hl1)).trans (HC1.out k hlt)
      have g2 : wr.cell? ⟨b2, o2 + k, none⟩ = some (.int .u8 (l.getD k 0).toNat) := (hb.cell (by exact hl2)).trans (HC2.out k hlt)
      generalize (l.getD k 0).toNat = x at *
      have hi : (k : Int) < (n : Int) := by omega
      go_wp2_with fail
      go_quiet (fail)
      go_wp2_with fail
      go_roundw
      case rel => exact ⟨k + 1, by omega, by go_num, below_drewN hb _⟩
      case measure => simp [intOf]; omega
    · go_wp2
      go_ret
      exact ⟨rfl, hb⟩

/-- binary.Uvarint, whatever the slice. -/
theorem uvarint_any (a : Option Addr) (n c : Nat) (l : List UInt8) (w : World) (hl : l.length = n) (h : 0 < n → ∃ g o, a = some ⟨g, o, none⟩ ∧ ∀ j, j < n → w.cell? ⟨g, o + j, none⟩ = some (.int .u8 (l.getD j 0).toNat)) :
    Calls Tryf.prog 14 #[.slice a n c] w fun e w' => e = .returned (.tuple #[.int .u64 (Lib.uvarintDec l).1, .int .i64 (Lib.uvarintDec l).2]) ∧ w = w' := by
  by_cases h0 : n = 0
  · subst h0
    obtain rfl : l = [] := List.eq_nil_of_length_eq_zero hl
    exact (Tryf.binary_Uvarint_empty a c w).mono fun e w' ⟨he, hw⟩ => ⟨he, hw.symm⟩
  · obtain ⟨g, o, rfl, hc⟩ := h (by omega)
    refine (Tryf.binary_Uvarint g o n c l w hl fun j hj => ?_).mono fun e w' ⟨he, hw⟩ => ⟨he, hw.symm⟩
    rw [hc j (by omega)]
    simp [List.getD, List.getElem?_eq_getElem hj]

theorem uv_bad (F : Stop.Interp) (D : Nat) (a : Option Addr) (n c : Nat) (l : List UInt8) (ae : Addr) (s : ByteArray) (w : World) (hF : F.answers w.tape)
    (hd : DecAt w D (.slice a n c) .nilIface false) (hg : w.cell? ⟨0, 0, none⟩ = some (.iface 50 (.pointer (some ae)))) (hs : w.cell? ae = some (.string s))
    (hl : l.length = n) (h : 0 < n → ∃ g o, a = some ⟨g, o, none⟩ ∧ ∀ j, j < n → w.cell? ⟨g, o + j, none⟩ = some (.int .u8 (l.getD j 0).toNat)) (hb : (Lib.uvarintDec l).2 ≤ 0) :
    Calls Tryf.prog 11 #[.pointer (some ⟨D, 0, none⟩)] w fun e w' => e = .returned (.int .u64 0) ∧ ∃ ev, DecAt w' D (.slice none 0 0) ev false ∧ Below D w w' := by
  have C14 := hide (uvarint_any a n c l w hl h)
  have C12 := hide (fun what => fail_first F D _ _ what ae s w hF hd hg hs)
  have h0 := hd.cell0
  have hD := hd.lt
  generalize (Lib.uvarintDec l).2 = k at *
  generalize (Lib.uvarintDec l).1 = v at *
  clear hF hg hs h hd
  go_enter Tryf.func11, Tryf.ntmps11
  go_wp2_with (first | (go_at_call 14; refine C14.out.mono ?_; rintro e w' ⟨rfl, rfl⟩) | (go_at_call 12; refine (C12.out _).mono ?_; rintro e w' ⟨rfl, ev, hd', hb'⟩))
  go_ret
  exact ⟨rfl, _, ‹_›, ‹_›⟩

set_option maxHeartbeats 400000 in
theorem uv_ok (D : Nat) (g o n c : Nat) (l : List UInt8) (w : World) (hn : n ≤ 1048576) (hnc : n ≤ c) (hc : c ≤ 1048576)
    (hd : DecAt w D (.slice (some ⟨g, o, none⟩) n c) .nilIface false)
    (hl : l.length = n) (hcell : ∀ j, j < n → w.cell? ⟨g, o + j, none⟩ = some (.int .u8 (l.getD j 0).toNat)) (k : Nat) (hk : (Lib.uvarintDec l).2 = k) (hk0 : 0 < k) (hkn : k ≤ n) :
    Calls Tryf.prog 11 #[.pointer (some ⟨D, 0, none⟩)] w fun e w' => e = .returned (.int .u64 (Lib.uvarintDec l).1) ∧ ∃ a' lo, (k < n → a' = some ⟨g, o + k, none⟩) ∧ DecAt w' D (.slice a' (n - k) (c - k)) .nilIface lo ∧ Below D w w' := by
  have hv := Lib.uvarintDec_lt l
  have c14 := uvarint_any (some ⟨g, o, none⟩) n c l w hl (fun _ => ⟨g, o, rfl, hcell⟩)
  rw [hk] at c14
  have C14 := hide c14
  clear c14 hk hcell
  have h0 := hd.cell0
  have hf := hd.free
  have hD := hd.lt
  generalize (Lib.uvarintDec l).1 = v at *
  have D1 := hide hd.set0
  have h2 : ∀ x, (w.setCell ⟨D, 0, none⟩ x).cell? ⟨D, 2, none⟩ = some (.bool false) := fun x => (hd.set0 x).cell2
  have hlow : (0 : Int) ≤ (k : Int) := by omega
  have hlow2 : (k : Int) ≤ (n : Int) := by omega
  by_cases hck : c = k
  · obtain rfl : n = k := by omega
    obtain rfl : n = c := hck.symm
    go_enter Tryf.func11, Tryf.ntmps11
    go_wp2_with (go_at_call 14; refine C14.out.mono ?_; rintro e w' ⟨rfl, rfl⟩)
    have d1 := D1.out (.slice (some ⟨g, o, none⟩) 0 0)
    have b1 : Below D w (w.setCell ⟨D, 0, none⟩ (.slice (some ⟨g, o, none⟩) 0 0)) := (Below.refl _ _).setCell (p := ⟨D, 0, none⟩) (Nat.le_refl D) _
    clear h2 D1 hd h0 hf
    refine (len_any v hv _).mono ?_
    rintro e w2 ⟨m, rfl, hb2⟩
    have d2 := d1.later hb2 d1.lt
    have b2 : Below D w w2 := b1.trans (hb2.mono (Nat.le_of_lt d1.lt))
    clear d1 b1 hb2
    have h2 := d2.cell2
    have hf := d2.free
    have D2 := hide d2
    clear d2
    go_wp2_with fail
    go_ret
    exact ⟨rfl, _, _, fun h => absurd h (by omega), by rw [Nat.sub_self]; exact D2.out.set2 _, b2.setCell (p := ⟨D, 2, none⟩) (Nat.le_refl D) _⟩
  · go_enter Tryf.func11, Tryf.ntmps11
    go_wp2_with (go_at_call 14; refine C14.out.mono ?_; rintro e w' ⟨rfl, rfl⟩)
    have d1 := D1.out (.slice (some ⟨g, o + k, none⟩) (n - k) (c - k))
    have b1 : Below D w (w.setCell ⟨D, 0, none⟩ (.slice (some ⟨g, o + k, none⟩) (n - k) (c - k))) := (Below.refl _ _).setCell (p := ⟨D, 0, none⟩) (Nat.le_refl D) _
    clear h2 D1 hd h0 hf
    refine (len_any v hv _).mono ?_
    rintro e w2 ⟨m, rfl, hb2⟩
    have d2 := d1.later hb2 d1.lt
    have b2 : Below D w w2 := b1.trans (hb2.mono (Nat.le_of_lt d1.lt))
    clear d1 b1 hb2
    have h2 := d2.cell2
    have hf := d2.free
    have D2 := hide d2
    clear d2
    go_wp2_with fail
    go_ret
    exact ⟨rfl, _, _, fun _ => rfl, D2.out.set2 _, b2.setCell (p := ⟨D, 2, none⟩) (Nat.le_refl D) _⟩

end Go.Proofs.Qxb6613165aFmt

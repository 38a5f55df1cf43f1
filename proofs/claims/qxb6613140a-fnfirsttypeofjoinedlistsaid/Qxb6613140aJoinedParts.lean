import Derived.Test.Qxb6613140aInsertWalk
import Derived.Deep.CutRange
namespace Go.Proofs.Qxb6613140a
open Go.ChangeShapes Go.WideShapes Go.ChangeAt Go.RowKit

/-- A slice of bytes that the call itself made, or that has no element: where it has one, it lies at a row's head, and the row holds just its numbers. -/
def Src (w : World) (a : Option Addr) (len : Nat) (zs : List Int) : Prop :=
  0 < len → ∃ g, a = some ⟨g, 0, none⟩ ∧ w.heap[g]? = some (.cells (cellsOf8 len zs).toArray 5 (0, 0))

theorem Src.later {w w' : World} {a : Option Addr} {len : Nat} {zs : List Int} (h : Src w a len zs) (hb : Below w.heap.size w w') : Src w' a len zs := by
  intro h0
  obtain ⟨g, rfl, hg⟩ := h h0
  exact ⟨g, rfl, (hb.block _ (Array.getElem?_eq_some_iff.1 hg).1).trans hg⟩

theorem Src.drew {w : World} {a : Option Addr} {len : Nat} {zs : List Int} (h : Src w a len zs) : Src w.drew a len zs := h

theorem Src.cells {w : World} {a : Option Addr} {len : Nat} {zs : List Int} (h : Src w a len zs) (h0 : 0 < len) : ∃ ad, a = some ad ∧ ∀ j v, (cellsOf8 len zs)[j]? = some v → w.cell? (ad.add j) = some v := by
  obtain ⟨g, rfl, hg⟩ := h h0
  refine ⟨_, rfl, fun j v hv => ?_⟩
  rw [Addr.add_lit, Nat.zero_add, cell_of_row _ _ _ _ _ _ hg, List.getElem?_toArray]
  exact hv

/-- ZZFirstTypeOfRaws at such a slice. -/
theorem raws_src (a : Option Addr) (len cap : Nat) (zs : List Int) (w : World) (hl : len ≤ 1048577) (hz : len ≤ zs.length) (h : Src w a len zs) :
    Calls Try.prog 11 #[.slice a len cap] w fun e w' => e = .returned (.int .u8 (firstOf len zs)) ∧ Below w.heap.size w w' := by
  by_cases h0 : len = 0
  · subst h0; exact raws_zero _ _ _ _
  · obtain ⟨g, rfl, hg⟩ := h (by omega)
    exact raws_row g len cap zs w hl hz hg

theorem concat_row {la lb : Nat} {za zb : List Int} (hza : la ≤ za.length) (hzb : lb ≤ zb.length) :
    splice (splice (List.replicate (la + lb) (Value.int .u8 0)) 0 (cellsOf8 la za)) la (cellsOf8 lb zb) = cellsOf8 (la + lb) (za.take la ++ zb.take lb) := by
  have hA := cellsOf8_length hza
  have hB := cellsOf8_length hzb
  have e1 : splice (List.replicate (la + lb) (Value.int .u8 0)) 0 (cellsOf8 la za) = cellsOf8 la za ++ List.replicate lb (Value.int .u8 0) := by simp [splice, hA]
  rw [e1]
  unfold splice
  rw [List.take_append_of_le_length (by omega), List.take_of_length_le (by omega), List.drop_eq_nil_of_le (i := la + (cellsOf8 lb zb).length) (by rw [hB]; simp [hA]), List.append_nil]
  unfold cellsOf8
  rw [← List.map_append, List.take_of_length_le (l := za.take la ++ zb.take lb) (by simp; omega)]

set_option maxHeartbeats 400000 in
theorem concat_any (a b : Option Addr) (la ca lb cb : Nat) (za zb : List Int) (w : World) (hl : la + lb ≤ 1048576) (hza : la ≤ za.length) (hzb : lb ≤ zb.length) (ha : Src w a la za) (hb : Src w b lb zb) :
    Calls Try.prog 10 #[.slice a la ca, .slice b lb cb] w fun e w' => ∃ g, w.heap.size ≤ g ∧ e = .returned (.slice (some ⟨g, 0, none⟩) (la + lb) (la + lb)) ∧ w'.heap[g]? = some (.cells (cellsOf8 (la + lb) (za.take la ++ zb.take lb)).toArray 5 (0, 0)) ∧ Below w.heap.size w w' := by
  obtain ⟨i0, hi, hz0, hz1, hz2⟩ := info_parts Try.info5
  go_enter Try.func10, Try.ntmps10
  go_wp2_with (at_make; refine wpList_make_full _ rfl (.tmp 10) (.tmp 10) 22 rfl w.heap.size 5 i0 (.int .u8 0) 1 Try.underlying22 hi hz0 hz1 _ _ _ _ (la + lb) rfl rfl (by omega) (by omega) (by rw [hz2]; omega) (by unfold maxLen; omega) (by omega) ?_)
  intro w1 hown hgrow
  have HR1 := Hid.intro (row_of_made hown)
  have hb1 : Below w.heap.size w w1 := (Below.refl _ _).grown hgrow (Nat.le_refl _) (by simp)
  clear hown hgrow hi hz0 hz1 hz2
  have ha1 := ha.later hb1
  have n1 : (cellsOf8 la za).length = Nat.min la (la + lb) := by rw [cellsOf8_length hza]; simp
  have p1 : CopyPos (some ⟨w.heap.size, 0, none⟩) a w.heap.size 0 (cellsOf8 la za) w1 := fun h => ⟨rfl, ha1.cells (by rw [cellsOf8_length hza] at h; exact h)⟩
  have f1 : 0 + (cellsOf8 la za).length ≤ (List.replicate (la + lb) (Value.int .u8 0)).length := by rw [cellsOf8_length hza]; simp
  clear ha1
  go_wp2_with ((with_reducible refine at_copy ?_); refine wpList_copy_splice rfl (.tmp 12) (.tmp 13) 22 22 rfl 5 Try.underlying22 Try.size5 _ _ _ _ _ _ rfl rfl w.heap.size 0 (List.replicate (la + lb) (.int .u8 0)) 5 HR1.out (cellsOf8 la za) n1 p1 f1 cellsOf8_one w.heap.size w hb1 (Nat.le_refl _) ?_)
  intro w2 HR2 hb2
  clear HR1 hb1 p1
  have hb2' := hb.later hb2
  have n3 : (cellsOf8 lb zb).length = Nat.min lb lb := by rw [cellsOf8_length hzb]; simp
  have f3 : la + (cellsOf8 lb zb).length ≤ (splice (List.replicate (la + lb) (Value.int .u8 0)) 0 (cellsOf8 la za)).length := by rw [length_splice _ _ _ f1, cellsOf8_length hzb]; simp
  have K : ∀ w3 : World, Hid (w3.heap[w.heap.size]? = some (.cells (splice (splice (List.replicate (la + lb) (Value.int .u8 0)) 0 (cellsOf8 la za)) la (cellsOf8 lb zb)).toArray 5 (0, 0))) → w3.heap[w.heap.size]? = some (.cells (cellsOf8 (la + lb) (za.take la ++ zb.take lb)).toArray 5 (0, 0)) := by
    intro w3 h; rw [← concat_row hza hzb]; exact h.out
  have KK := Hid.intro K
  have p3 : CopyPos (some ⟨w.heap.size, la, none⟩) b w.heap.size la (cellsOf8 lb zb) w2 := fun h => ⟨rfl, hb2'.cells (by rw [cellsOf8_length hzb] at h; exact h)⟩
  have p3' : lb = 0 → CopyPos (some ⟨w.heap.size, 0, none⟩) b w.heap.size la (cellsOf8 lb zb) w2 := fun h0 h => by rw [cellsOf8_length hzb] at h; omega
  clear K hb2' ha hb f1 n1
  by_cases hb0 : lb = 0
  · have p4 := p3' hb0
    subst hb0
    go_wp2_with ((with_reducible refine at_copy ?_); refine wpList_copy_splice rfl (.tmp 18) (.tmp 19) 22 22 rfl 5 Try.underlying22 Try.size5 _ _ _ _ _ _ rfl rfl w.heap.size la _ 5 HR2.out (cellsOf8 0 zb) n3 p4 f3 cellsOf8_one w.heap.size w hb2 (Nat.le_refl _) ?_)
    intro w3 HR3 hb3
    have HR4 := Hid.intro (KK.out w3 HR3)
    clear HR2 HR3 KK p3 p3' p4 n3 f3
    go_wp2_with fail
    go_ret
    exact ⟨w.heap.size, Nat.le_refl _, rfl, HR4.out, hb3⟩
  · have hb1 : (0 : Int) < (lb : Int) := by omega
    go_wp2_with ((with_reducible refine at_copy ?_); refine wpList_copy_splice rfl (.tmp 18) (.tmp 19) 22 22 rfl 5 Try.underlying22 Try.size5 _ _ _ _ _ _ rfl rfl w.heap.size la _ 5 HR2.out (cellsOf8 lb zb) n3 p3 f3 cellsOf8_one w.heap.size w hb2 (Nat.le_refl _) ?_)
    intro w3 HR3 hb3
    have HR4 := Hid.intro (KK.out w3 HR3)
    clear HR2 HR3 KK p3 p3' n3 f3
    go_wp2_with fail
    go_ret
    exact ⟨w.heap.size, Nat.le_refl _, rfl, HR4.out, hb3⟩

theorem bytes3_small (a b : Option Addr) (la ca lb cb : Nat) (w : World) (h : la + lb ≤ 1048576) :
    Calls Try.prog 9 #[.slice a la ca, .slice b lb cb] w fun e w' => e = .returned (.bool true) ∧ w = w' := by
  go_enter Try.func9, Try.ntmps9
  go_wp2
  go_ret
  exact ⟨rfl, rfl⟩

set_option maxHeartbeats 400000 in
theorem bytes3_great (a b : Option Addr) (la ca lb cb : Nat) (w : World) (h : 1048576 < la + lb) (hla : la ≤ 9223372036854775807) (hlb : lb ≤ 9223372036854775807) :
    Calls Try.prog 9 #[.slice a la ca, .slice b lb cb] w fun e w' => e = .returned (.bool false) ∧ w = w' := by
  by_cases h1 : 1048576 < la
  · go_enter Try.func9, Try.ntmps9
    go_wp2
    go_ret
    exact ⟨rfl, rfl⟩
  by_cases h2 : 1048576 < lb
  · go_enter Try.func9, Try.ntmps9
    go_wp2
    go_ret
    exact ⟨rfl, rfl⟩
  go_enter Try.func9, Try.ntmps9
  go_wp2
  go_ret
  exact ⟨rfl, rfl⟩

set_option maxHeartbeats 400000 in
theorem joined_great (a b : Option Addr) (la ca lb cb : Nat) (w : World) (h : 1048576 < la + lb) (hla : la ≤ 9223372036854775807) (hlb : lb ≤ 9223372036854775807) :
    Calls Try.prog 3 #[.slice a la ca, .slice b lb cb] w fun e w' => e = .returned (.bool true) ∧ Below w.heap.size w w' := by
  go_enter Try.func3, Try.ntmps3
  go_wp2_with (go_at_call 9; refine (bytes3_great _ _ _ _ _ _ _ h hla hlb).mono ?_; rintro e w' ⟨rfl, rfl⟩)
  go_ret
  exact ⟨rfl, Below.refl _ _⟩

set_option maxHeartbeats 400000 in
theorem joined_out (a b : Option Addr) (la ca lb cb : Nat) (w : World) (h : la + lb ≤ 1048576) (ho : 524288 < la ∨ 524288 < lb) :
    Calls Try.prog 3 #[.slice a la ca, .slice b lb cb] w fun e w' => e = .returned (.bool true) ∧ Below w.heap.size w w' := by
  by_cases h1 : 524288 < la
  · go_enter Try.func3, Try.ntmps3
    go_wp2_with (go_at_call 9; refine (bytes3_small _ _ _ _ _ _ _ h).mono ?_; rintro e w' ⟨rfl, rfl⟩)
    go_ret
    exact ⟨rfl, Below.refl _ _⟩
  have h2 : 524288 < lb := by omega
  go_enter Try.func3, Try.ntmps3
  go_wp2_with (go_at_call 9; refine (bytes3_small _ _ _ _ _ _ _ h).mono ?_; rintro e w' ⟨rfl, rfl⟩)
  go_ret
  exact ⟨rfl, Below.refl _ _⟩
end Go.Proofs.Qxb6613140a

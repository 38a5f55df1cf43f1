import Derived.Test.Qxb6613140aRows
import Derived.WalkKit
import Derived.ProofKit
import Derived.OpenShut
import Derived.Below
import Derived.Outline
import Derived.WalkSpells
import Derived.WalkLawsBesides
namespace Go.Proofs.Qxb6613140a
open Go.ChangeShapes Go.WideShapes Go.ChangeAt Go.RowKit

theorem Try.info45 : (Try.prog.info? 45).map (fun i => (i.zero, i.size, i.bytes)) = some (some .nilIface, 1, 16) := by kernel_rfl
theorem Try.info5 : (Try.prog.info? 5).map (fun i => (i.zero, i.size, i.bytes)) = some (some (.int .u8 0), 1, 1) := by kernel_rfl

theorem type_any (C : Nat) (z : Int) (w : World) (hc : w.cell? ⟨C, 0, none⟩ = some (.int .u8 z)) :
    Calls Try.prog 42 #[.pointer (some ⟨C, 0, none⟩)] w fun e w' => e = .returned (.int .u8 z) ∧ w' = w := by
  go_enter Try.func42, Try.ntmps42
  go_wp2
  go_ret
  exact ⟨rfl, rfl⟩

theorem first_zero (a : Option Addr) (cap : Nat) (w : World) :
    Calls Try.prog 21 #[.slice a 0 cap] w fun e w' => e = .returned (.int .u8 0) ∧ w' = w := by
  go_enter Try.func21, Try.ntmps21
  go_wp2
  go_ret
  exact ⟨rfl, rfl⟩

theorem method_type (a : Addr) (w : World) : (method 172 31 (.pointer (some a)) "Type").run Try.prog w = .ok (42, .pointer (some a)) w := by kernel_rfl

set_option maxHeartbeats 400000 in
theorem first_some (B C len cap : Nat) (z : Int) (w : World) (hl : 0 < len) (hB : w.cell? ⟨B, 0, none⟩ = some (.iface 31 (.pointer (some ⟨C, 0, none⟩)))) (hc : w.cell? ⟨C, 0, none⟩ = some (.int .u8 z)) :
    Calls Try.prog 21 #[.slice (some ⟨B, 0, none⟩) len cap] w fun e w' => e = .returned (.int .u8 z) ∧ w' = w := by
  have h1 : ((len : Int) == 0) = false := by simp; omega
  have h2 : (0 : Int) < (len : Int) := by omega
  have hm := method_type
  go_enter Try.func21, Try.ntmps21
  go_wp2_with (go_at_call 42; refine (type_any _ _ _ hc).mono ?_; rintro e w' ⟨rfl, rfl⟩)
  go_ret
  exact ⟨rfl, rfl⟩

theorem Hid.intro {p : Prop} (h : p) : Hid p := h

/-- What holds of memory at the loop's head, behind k rounds: the row of interface values lies in block B; where a round has been made its first cell leads to a block whose first cell holds z0. -/
def RawsRel (w : World) (B len : Nat) (z0 : Int) (k : Nat) (wr : World) : Prop :=
  Below B w wr ∧ ∃ cur : Array Value, cur.size = len ∧ wr.heap[B]? = some (.cells cur 45 (0, 0)) ∧
    (0 < k → ∃ C, B < C ∧ cur[0]? = some (.iface 31 (.pointer (some ⟨C, 0, none⟩))) ∧ wr.cell? ⟨C, 0, none⟩ = some (.int .u8 z0))

theorem rawsRel_step {w wr : World} {B len k : Nat} {z0 z : Int} (h : RawsRel w B len z0 k wr) (hk : k < len) (hz : k = 0 → z = z0) :
    RawsRel w B len z0 (k + 1) ((wr.setCell ⟨B, k, none⟩ (.iface 31 (.pointer (some ⟨wr.heap.size, 0, none⟩)))).alloc (.cells #[.int .u8 z, .slice none 0 0] 33)) := by
  obtain ⟨hb, cur, hs, hg, hC⟩ := h
  have hBs : B < wr.heap.size := (Array.getElem?_eq_some_iff.1 hg).1
  have hsz : (wr.setCell ⟨B, k, none⟩ (.iface 31 (.pointer (some ⟨wr.heap.size, 0, none⟩)))).heap.size = wr.heap.size := by simp [World.setCell]
  refine ⟨(hb.setCell (Nat.le_refl _) _).alloc (by omega) _, cur.setIfInBounds k (.iface 31 (.pointer (some ⟨wr.heap.size, 0, none⟩))), by simpa using hs, ?_, fun _ => ?_⟩
  · rw [Below.heap_alloc _ _ _ (by omega)]; exact heap_setCell_same _ _ _ _ _ _ hg
  by_cases h0 : k = 0
  · subst h0
    refine ⟨wr.heap.size, hBs, ?_, ?_⟩
    · rw [Array.getElem?_setIfInBounds_self_of_lt (by omega)]
    · rw [World.cell?_alloc_at _ _ _ _ hsz.symm, hz rfl]; rfl
  · obtain ⟨C, h1, h2, h3⟩ := hC (by omega)
    have hCs : C < wr.heap.size := World.block_lt_of_cell? wr _ h3
    refine ⟨C, h1, ?_, ?_⟩
    · rw [Array.getElem?_setIfInBounds_ne (by omega)]; exact h2
    · rw [World.cell?_alloc_lt _ _ _ (by rw [hsz]; exact hCs), World.cell?_setCell_other _ _ _ _ (by intro h; simp only [Addr.mk.injEq] at h; omega)]; exact h3

theorem rawsRel_zero {w w1 : World} {len : Nat} {z0 : Int} (hown : w1.ownsRow w.heap.size 45 1 (.slice (some ⟨w.heap.size, 0, none⟩) len len) len (madeCells #[.nilIface] len).toList) (hgrow : w.grownBy w1 none) :
    RawsRel w w.heap.size len z0 0 w1 := by
  refine ⟨(Below.refl _ _).grown hgrow (Nat.le_refl _) (by simp), ?_⟩
  rcases hown.2 with ⟨h, _⟩ | ⟨g, cap, cur, h, _, hg, _, _, hs, _⟩
  · simp at h
  · simp only [Value.slice.injEq, Option.some.injEq, Addr.mk.injEq, and_true, true_and] at h
    obtain ⟨rfl, rfl⟩ := h
    exact ⟨cur, by simpa using hs, hg, fun h => by omega⟩

/-- The first of the numbers, 0 if there is none. -/
def firstOf (len : Nat) (zs : List Int) : Int := if len = 0 then 0 else zs.getD 0 0

set_option maxHeartbeats 400000 in
theorem raws_zero (a : Option Addr) (cap : Nat) (zs : List Int) (w : World) :
    Calls Try.prog 11 #[.slice a 0 cap] w fun e w' => e = .returned (.int .u8 (firstOf 0 zs)) ∧ Below w.heap.size w w' := by
  obtain ⟨i0, hi, hz0, hz1, hz2⟩ := info_parts Try.info45
  go_enter Try.func11, Try.ntmps11
  go_wp2_with (at_make; refine wpList_make_full _ rfl _ _ 43 rfl w.heap.size 45 i0 .nilIface 1 Try.underlying43 hi hz0 hz1 _ _ _ _ 0 rfl rfl rfl rfl ?b2 ?b3 ?b4 ?_)
  case b2 => rw [hz2]; omega
  case b3 => unfold maxLen; omega
  case b4 => exact Nat.le_refl _
  intro w1 hown hgrow
  go_wp2_with fail
  refine wp_loop_rounds 1 ?_; rw [rounds_succ]
  go_wp2_with (go_at_call 21; refine (first_zero _ _ _).mono ?_; rintro e w' ⟨rfl, rfl⟩)
  go_ret
  exact ⟨rfl, (Below.refl _ _).grown hgrow (Nat.le_refl _) (by simp)⟩

set_option maxHeartbeats 400000 in
theorem raws_some (b off len cap : Nat) (zs : List Int) (w : World) (hl0 : 0 < len) (hlc : len ≤ 1048577) (hcell : ∀ i, i < len → w.cell? ⟨b, off + i, none⟩ = some (.int .u8 (zs.getD i 0))) :
    Calls Try.prog 11 #[.slice (some ⟨b, off, none⟩) len cap] w fun e w' => e = .returned (.int .u8 (firstOf len zs)) ∧ Below w.heap.size w w' := by
  obtain ⟨i0, hi, hz0, hz1, hz2⟩ := info_parts Try.info45
  have hbw : b < w.heap.size := World.block_lt_of_cell? w _ (hcell 0 hl0)
  go_enter Try.func11, Try.ntmps11
  go_wp2_with (at_make; refine wpList_make_full _ rfl _ _ 43 rfl w.heap.size 45 i0 .nilIface 1 Try.underlying43 hi hz0 hz1 _ _ _ _ len rfl rfl rfl rfl ?b2 ?b3 ?b4 ?_)
  case b2 => rw [hz2]; omega
  case b3 => unfold maxLen; omega
  case b4 => exact Nat.le_refl _
  intro w1 hown hgrow
  have hr0 := rawsRel_zero (z0 := zs.getD 0 0) hown hgrow
  clear hown hgrow hi hz0 hz1 hz2
  go_wp2_with fail
  go_loopw [4] (fun i wr => ∃ k : Nat, k ≤ len ∧ i = .int .i64 k ∧ RawsRel w w.heap.size len (zs.getD 0 0) k wr) (fun i _ => len - (intOf i).toNat)
  case atStart => exact ⟨0, Nat.zero_le _, rfl, hr0⟩
  case round =>
    clear hr0
    obtain ⟨k, hk, rfl, hR⟩ := hrel
    by_cases hlt : k < len
    · have HS := Hid.intro (rawsRel_step (z := zs.getD k 0) hR hlt (by rintro rfl; rfl))
      obtain ⟨hb, cur, hs, hg, -⟩ := hR
      have hBs : w.heap.size < wr.heap.size := (Array.getElem?_eq_some_iff.1 hg).1
      have hc1 : wr.cell? ⟨b, off + k, none⟩ = some (.int .u8 (zs.getD k 0)) := (hb.cell (by exact hbw)).trans (hcell k hlt)
      obtain ⟨u, hc2⟩ : ∃ u, wr.cell? ⟨w.heap.size, k, none⟩ = some u := ⟨cur[k], by rw [cell_of_row _ _ _ _ _ _ hg]; simp [hs, hlt]⟩
      have hf2 : wr.frozen? ⟨w.heap.size, k, none⟩ = false := frozen_of_row _ _ _ _ _ hg
      clear hb hs hg
      go_wp2_with fail
      go_roundw
      case rel => exact ⟨k + 1, by omega, by go_num, HS.out⟩
      case measure => simp [intOf]; omega
    · obtain rfl : k = len := by omega
      obtain ⟨hb, cur, hs, hg, hC⟩ := hR
      obtain ⟨C, hBC, h2, h3⟩ := hC hl0
      have h1 : wr.cell? ⟨w.heap.size, 0, none⟩ = some (.iface 31 (.pointer (some ⟨C, 0, none⟩))) := by rw [cell_of_row _ _ _ _ _ _ hg]; exact h2
      have HB := Hid.intro hb
      clear hb hs hg hC h2
      go_wp2_with (go_at_call 21; refine (first_some _ _ _ _ _ _ hl0 h1 h3).mono ?_; rintro e w' ⟨rfl, rfl⟩)
      go_ret
      exact ⟨by simp [firstOf, show k ≠ 0 by omega], HB.out⟩
end Go.Proofs.Qxb6613140a

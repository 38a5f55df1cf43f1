import Derived.Test.Qxb6613140aInsertWalk
namespace Go.Proofs.Qxb6613140a
open Go.ChangeShapes Go.WideShapes Go.ChangeAt Go.RowKit

set_option maxHeartbeats 400000 in
theorem walk_nil (x : Int) (w : World) :
    Calls Try.prog 4 #[.slice none 0 0, .int .i64 0, .int .u8 x] w fun e w' => e = .returned (.bool true) ∧ Below w.heap.size w w' := by
  obtain ⟨i0, hi, hz0, hz1, hz2⟩ := info_parts Try.info5
  go_enter Try.func4, Try.ntmps4
  go_wp2_with (first | (go_at_call 12; refine (bytes_small _ _ _ _ _ _ (by omega)).mono ?_; rintro e w' ⟨rfl, rfl⟩) | (at_make; refine wpList_make_full _ rfl (.tmp 39) (.tmp 39) 22 rfl w.heap.size 5 i0 (.int .u8 0) 1 Try.underlying22 hi hz0 hz1 _ _ _ _ 1 rfl rfl (by omega) (by omega) (by rw [hz2]; omega) (by unfold maxLen; omega) (by omega) ?_))
  intro w1 hown hgrow
  have HR1 := Hid.intro (row_of_made hown)
  have hb1 : Below w.heap.size w w1 := (Below.refl _ _).grown hgrow (Nat.le_refl _) (by simp)
  clear hown hgrow
  have p4 : CopyPos (some ⟨w.heap.size, 0, none⟩) none w.heap.size 0 [] w1.drew := by intro h; simp at h
  have o4 : ∀ v ∈ ([] : List Value), v.oneCell' = true := by simp
  go_wp2_with fail
  go_region_law (refine step_copy_splice rfl (.tmp 43) (.tmp 46) 22 22 rfl 5 Try.underlying22 Try.size5 (some ⟨w.heap.size, 0, none⟩) none 0 1 0 0 (by simp [Act.eval, Act.put]) (by simp [Act.eval, Act.put]) w.heap.size 0 (List.replicate 1 (.int .u8 0)) 5 (by exact HR1.out) [] (by simp) (by exact p4) (by simp) o4 w.heap.size w (by exact hb1.drew) (Nat.le_refl _) ?_; intro w4 HR4 hb4)
  have hg4 : w4.heap[w.heap.size]? = some (.cells #[.int .u8 0] 5 (0, 0)) := HR4.out
  have hu : w4.cell? ⟨w.heap.size, 0, none⟩ = some (.int .u8 0) := by rw [cell_of_row _ _ _ _ _ _ hg4]; rfl
  have hf : w4.frozen? ⟨w.heap.size, 0, none⟩ = false := frozen_of_row _ _ _ _ _ hg4
  have HR5 : Hid ((w4.setCell ⟨w.heap.size, 0, none⟩ (.int .u8 x)).heap[w.heap.size]? = some (.cells (cellsOf8 1 [x]).toArray 5 (0, 0))) := heap_setCell_same _ _ _ _ _ _ hg4
  have hbw5 : Below w.heap.size w (w4.setCell ⟨w.heap.size, 0, none⟩ (.int .u8 x)) := hb4.setCell (Nat.le_refl _) _
  clear HR4 hg4 HR1 hb1 p4
  go_wp2_with fail
  clear hu hf
  generalize w4.setCell ⟨w.heap.size, 0, none⟩ (.int .u8 x) = w5 at *
  have hw1 : IntKind.i64.wrap 1 = 1 := rfl
  have p6 : CopyPos (some ⟨w.heap.size, 0, none⟩) none w.heap.size 0 [] w5.drew := by intro h; simp at h
  go_region_law (refine step_copy_splice rfl (.tmp 55) (.tmp 58) 22 22 rfl 5 Try.underlying22 Try.size5 (some ⟨w.heap.size, 0, none⟩) none 0 0 0 0 (by simp [Act.eval, Act.put]) (by simp [Act.eval, Act.put]) w.heap.size 0 (cellsOf8 1 [x]) 5 (by exact HR5.out) [] (by simp) (by exact p6) (by simp) o4 w.heap.size w (by exact hbw5.drew) (Nat.le_refl _) ?_; intro w6 HR6 hb6)
  have K1 : w6.heap[w.heap.size]? = some (.cells (cellsOf8 1 [x]).toArray 5 (0, 0)) := HR6.out
  have hs6 : w.heap.size < w6.heap.size := (Array.getElem?_eq_some_iff.1 K1).1
  have R1 := Hid.intro (raws_row w.heap.size 1 1 [x] w6 (by omega) (by simp) K1)
  clear HR6 K1 HR5 hbw5 p6 hb4 o4
  go_wp2_with fail
  refine R1.out.mono ?_
  rintro e w7 ⟨rfl, hb7⟩
  have hbw7 : Below w.heap.size w w7 := hb6.trans (hb7.mono (by omega))
  have hs7 : w.heap.size ≤ w7.heap.size := hbw7.size
  clear R1 hb7 hb6
  go_wp2_with fail
  refine (raws_zero none 0 [] w7).mono ?_
  rintro e w8 ⟨rfl, hb8⟩
  have HB8 := Hid.intro (hbw7.trans (hb8.mono hs7))
  have hf1 : firstOf 1 [x] = x := rfl
  have hf2 : firstOf 0 ([] : List Int) = 0 := rfl
  clear hb8 hbw7
  go_wp2_with fail
  go_ret
  exact ⟨rfl, HB8.out⟩
end Go.Proofs.Qxb6613140a

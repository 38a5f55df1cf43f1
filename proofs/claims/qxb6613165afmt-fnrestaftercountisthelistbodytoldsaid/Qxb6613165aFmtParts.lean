import Derived.Test.Qxb6613165aFmtModel
import Derived.Test.Qxb6613165aFmtShelf
import Derived.Lib.Varint
namespace Go.Proofs.Qxb6613165aFmt
open Go.ChangeShapes Go.WideShapes Go.ChangeAt Go.RowKit

set_option maxRecDepth 100000 in
theorem model_empty (a : Option Addr) (cap : Nat) (w : World) :
    Calls Tryf.prog 9 #[.slice a 0 cap] w fun e w' => e = .returned (.tuple #[.int .u64 (modelOf []).1, .int .i64 (modelOf []).2.1, .bool (modelOf []).2.2]) ∧ w = w' := by
  go_enter Tryf.func9, Tryf.ntmps9
  go_wp2
  refine wp_loop_rounds 1 ?_; rw [rounds_succ]
  go_wp2
  go_ret3
  exact ⟨rfl, rfl⟩

theorem below_setCells {B g : Nat} {w0 : World} (hBg : B ≤ g) : ∀ (cs : List Value) (o : Nat) (w : World), Below B w0 w → Below B w0 (w.setCells g o cs)
  | [], _, _, h => h
  | c :: cs, o, _, h => below_setCells hBg cs (o + 1) _ (h.setCell (p := ⟨g, o, none⟩) hBg c)

set_option maxRecDepth 100000 in
theorem len_any (v : Nat) (hv : v < 18446744073709551616) (w : World) :
    Calls Tryf.prog 15 #[.int .u64 v] w fun e w' => ∃ k : Nat, e = .returned (.int .i64 k) ∧ Below w.heap.size w w' := by
  have hlen := Lib.uvarint_length64 hv
  go_enter Tryf.func15, Tryf.ntmps15
  go_wp2_with fail
  refine (Tryf.binary_PutUvarint w.heap.size 0 10 10 v hv _ hlen (fun j hj => ⟨?_, ?_⟩)).mono ?_
  · rw [World.cell?_alloc_at _ _ _ _ rfl]
    have h10 : j < 10 := by omega
    simpa using h10
  · exact frozen_of_row _ _ _ _ _ (heap_alloc_new _ _)
  · rintro e w' ⟨rfl, rfl⟩
    go_wp2_with fail
    go_ret
    exact ⟨_, rfl, below_setCells (Nat.le_refl _) _ _ _ ((Below.refl _ _).alloc (Nat.le_refl _) _)⟩

theorem rest_any (D : Nat) (bv ev : Value) (lo : Bool) (w : World) (hd : DecAt w D bv ev lo) :
    Calls Tryf.prog 8 #[.pointer (some ⟨D, 0, none⟩)] w fun e w' => e = .returned bv ∧ Below D w w' := by
  have h0 := hd.cell0
  have hf := hd.free
  have hD := hd.lt
  go_enter Tryf.func8, Tryf.ntmps8
  go_wp2
  go_ret
  exact ⟨rfl, (Below.refl _ _).setCell (p := ⟨D, 0, none⟩) (Nat.le_refl D) _⟩

theorem new_any (v : Value) (hv : ∃ a n c, v = .slice a n c) (w : World) :
    Calls Tryf.prog 6 #[v] w fun e w' => e = .returned (.pointer (some ⟨w.heap.size, 0, none⟩)) ∧ DecAt w' w.heap.size v .nilIface false ∧ Below w.heap.size w w' := by
  obtain ⟨a, n, c, rfl⟩ := hv
  go_enter Tryf.func6, Tryf.ntmps6
  go_wp2
  go_ret
  exact ⟨rfl, heap_alloc_new _ _, (Below.refl _ _).alloc (Nat.le_refl _) _⟩

theorem Tryf.info5 : (Tryf.prog.info? 5).map (fun i => (i.zero, i.size, i.bytes)) = some (some (.int .u8 0), 1, 1) := by kernel_rfl

theorem zz_small (a : Option Addr) (n c : Nat) (w : World) (h : n ≤ 1048576) : Calls Tryf.prog 4 #[.slice a n c] w fun e w' => e = .returned (.bool true) ∧ w = w' := by
  go_enter Tryf.func4, Tryf.ntmps4
  go_wp2
  go_ret
  exact ⟨rfl, rfl⟩
theorem zz_great (a : Option Addr) (n c : Nat) (w : World) (h : 1048576 < n) : Calls Tryf.prog 4 #[.slice a n c] w fun e w' => e = .returned (.bool false) ∧ w = w' := by
  go_enter Tryf.func4, Tryf.ntmps4
  go_wp2
  go_ret
  exact ⟨rfl, rfl⟩

/-- The row behind k rounds of the copy. -/
def half (l : List UInt8) (k : Nat) : List Value := Lib.byteCells (l.take k) ++ List.replicate (l.length - k) (Value.int .u8 0)
theorem half_length (l : List UInt8) (k : Nat) (hk : k ≤ l.length) : (half l k).length = l.length := by simp [half, Lib.byteCells]; omega
theorem half_zero (l : List UInt8) : half l 0 = List.replicate l.length (Value.int .u8 0) := by simp [half, Lib.byteCells]
theorem half_all (l : List UInt8) : half l l.length = Lib.byteCells l := by simp [half]
theorem half_set (l : List UInt8) (k : Nat) (hk : k < l.length) : (half l k).set k (.int .u8 (l.getD k 0).toNat) = half l (k + 1) := by
  have h1 : (Lib.byteCells (l.take k)).length = k := by simp [Lib.byteCells]; omega
  have h2 : Lib.byteCells (l.take (k + 1)) = Lib.byteCells (l.take k) ++ [.int .u8 (l.getD k 0).toNat] := by
    unfold Lib.byteCells
    rw [List.take_succ_eq_append_getElem hk, List.map_append]
    simp [List.getD, List.getElem?_eq_getElem hk]
  unfold half
  rw [List.set_append_right _ _ (by omega), h1, Nat.sub_self, show l.length - k = (l.length - (k + 1)) + 1 by omega, List.replicate_succ, List.set_cons_zero, h2, List.append_assoc]
  rfl
theorem half_cell {w : World} {g : Nat} {l : List UInt8} {k : Nat} (hk : k < l.length) (h : w.heap[g]? = some (.cells (half l k).toArray 5 (0, 0))) : ∃ u, w.cell? ⟨g, k, none⟩ = some u :=
  ⟨_, by rw [cell_of_row _ _ _ _ _ _ h, List.getElem?_toArray]; exact List.getElem?_eq_getElem (by rw [half_length _ _ (by omega)]; exact hk)⟩

theorem bytes_cell {w : World} {g : Nat} {l : List UInt8} (h : w.heap[g]? = some (.cells (Lib.byteCells l).toArray 5 (0, 0))) (j : Nat) (hj : j < l.length) : w.cell? ⟨g, j, none⟩ = some (.int .u8 (l.getD j 0).toNat) := by
  rw [cell_of_row _ _ _ _ _ _ h, List.getElem?_toArray]
  simp [Lib.byteCells, List.getD, List.getElem?_eq_getElem hj]

theorem row_of_made {w1 : World} {base g n e : Nat} {z : Value} (hown : w1.ownsRow base e 1 (.slice (some ⟨g, 0, none⟩) n n) n (madeCells #[z] n).toList) :
    w1.heap[g]? = some (.cells (List.replicate n z).toArray e (0, 0)) := by
  rcases hown.2 with ⟨h, _⟩ | ⟨g', cap, cur, h, _, hg, _, _, hs, ht⟩
  · simp at h
  · simp only [Value.slice.injEq, Option.some.injEq, Addr.mk.injEq, and_true, true_and] at h
    obtain ⟨rfl, rfl⟩ := h
    have : cur.toList = List.replicate n z := by
      rw [List.take_of_length_le (by simp [hs])] at ht
      rw [ht, toList_madeCells_one]
    rw [hg, ← this]

theorem copy_nil (c : Nat) (w : World) : Calls Tryf.prog 5 #[.slice none 0 c] w fun e w' => e = .returned (.slice none 0 0) ∧ w = w' := by
  have hq := fun (w : World) (a : Option Addr) (n c n' c' : Nat) => Lib.run_eql_slice_nil (P := Tryf.prog) w 22 5 a n c n' c' Tryf.underlying22
  go_enter Tryf.func5, Tryf.ntmps5
  go_wp2
  go_ret
  exact ⟨rfl, rfl⟩

set_option maxHeartbeats 400000 in
theorem copy_some (ad : Addr) (n c : Nat) (l : List UInt8) (w : World) (hn : n ≤ 1048576) (hl : l.length = n) (hcell : ∀ j, j < n → w.cell? (ad.add j) = some (.int .u8 (l.getD j 0).toNat)) :
    Calls Tryf.prog 5 #[.slice (some ad) n c] w fun e w' => e = .returned (.slice (some ⟨w.heap.size, 0, none⟩) n n) ∧ w'.heap[w.heap.size]? = some (.cells (Lib.byteCells l).toArray 5 (0, 0)) ∧ Below w.heap.size w w' := by
  obtain ⟨i0, hi, hz0, hz1, hz2⟩ := info_parts Tryf.info5
  have HC := hide hcell
  have HL := hide hl
  clear hcell hl
  have hq := fun (w : World) (a : Option Addr) (n c n' c' : Nat) => Lib.run_eql_slice_nil (P := Tryf.prog) w 22 5 a n c n' c' Tryf.underlying22
  go_enter Tryf.func5, Tryf.ntmps5
  go_wp2_with (at_make; refine wpList_make_full _ rfl _ _ 22 rfl w.heap.size 5 i0 (.int .u8 0) 1 Tryf.underlying22 hi hz0 hz1 _ _ _ _ n rfl rfl rfl rfl (by rw [hz2]; omega) (by unfold maxLen; omega) (Nat.le_refl _) ?_)
  intro w1 hown hgrow
  have HR := row_of_made hown
  rw [← HL.out, ← half_zero] at HR
  have HR := hide HR
  have hb1 : Below w.heap.size w w1 := (Below.refl _ _).grown hgrow (Nat.le_refl _) (by simp)
  clear hown hgrow hi hz0 hz1 hz2
  go_wp2_with fail
  go_loopw [4] (fun i wr => ∃ k : Nat, k ≤ n ∧ i = .int .i64 k ∧ Hid (wr.heap[w.heap.size]? = some (.cells (half l k).toArray 5 (0, 0))) ∧ Below w.heap.size w wr) (fun i _ => n - (intOf i).toNat)
  case atStart => exact ⟨0, Nat.zero_le _, rfl, HR, hb1⟩
  case round =>
    clear HR hb1
    obtain ⟨k, hk, rfl, HR, hb⟩ := hrel
    by_cases hlt : k < n
    · have hle : k < l.length := by rw [HL.out]; exact hlt
      have hc0 := HC.out k hlt
      have hc1 : wr.cell? (ad.add k) = some (.int .u8 (l.getD k 0).toNat) := (hb.cell (World.block_lt_of_cell? w _ hc0)).trans hc0
      have hspot : ad.spot = none := by simpa [Addr.add] using World.cell?_spot (HC.out 0 (by omega))
      obtain ⟨b, off, spot⟩ := ad
      obtain rfl : spot = none := hspot
      rw [Addr.add_lit] at hc1
      obtain ⟨u, hc2⟩ := half_cell hle HR.out
      have hf2 : wr.frozen? ⟨w.heap.size, k, none⟩ = false := frozen_of_row _ _ _ _ _ HR.out
      have hs : w.heap.size < wr.heap.size := (Array.getElem?_eq_some_iff.1 HR.out).1
      have HS := hide (heap_setCell_same _ _ k _ _ (.int .u8 (l.getD k 0).toNat) HR.out)
      have HE := hide (half_set l k hle)
      clear hc0
      generalize (l.getD k 0).toNat = x at *
      go_wp2_with fail
      go_roundw
      case rel => exact ⟨k + 1, by omega, by go_num, by rw [← HE.out]; exact hide (by simpa using HS.out), hb.setCell (p := ⟨w.heap.size, k, none⟩) (Nat.le_refl _) _⟩
      case measure => simp [intOf]; omega
    · obtain rfl : k = n := by omega
      have HR' : Hid (wr.heap[w.heap.size]? = some (.cells (Lib.byteCells l).toArray 5 (0, 0))) := by rw [← half_all, HL.out]; exact HR
      clear HR
      go_wp2_with fail
      go_ret
      exact ⟨rfl, HR'.out, hb⟩

end Go.Proofs.Qxb6613165aFmt

import Derived.Test.Qxb6613140aRaws
import Derived.Laws.CopyOwn
namespace Go.Proofs.Qxb6613140a
open Go.ChangeShapes Go.WideShapes Go.ChangeAt Go.RowKit

theorem at_copy {P : Program} {ops : Array Oper} {Q : Exit → Act → World → Prop} {rest : List Oper} {dst : Option Tmp} {args : Array Operand} {tys : Array TypeId} {ty : TypeId} {pos : String} {after : Array Edge} {gd : Option (Nat × Bool)} {a : Act} {w : World}
    (h : wpList P ops Q ({ dst := dst, op := .call { callee := .builtin .copy, args := args, argTypes := tys }, type := ty, pos := pos, after := after, guard := gd } :: rest) a w) :
    wpList P ops Q ({ dst := dst, op := .call { callee := .builtin .copy, args := args, argTypes := tys }, type := ty, pos := pos, after := after, guard := gd } :: rest) a w := h

set_option maxHeartbeats 400000 in
theorem bytes_small (a : Option Addr) (len cap : Nat) (i x : Int) (w : World) (h : len ≤ 1048576) :
    Calls Try.prog 12 #[.slice a len cap, .int .i64 i, .int .u8 x] w fun e w' => e = .returned (.bool true) ∧ w = w' := by
  go_enter Try.func12, Try.ntmps12
  go_wp2
  go_ret
  exact ⟨rfl, rfl⟩

set_option maxHeartbeats 400000 in
theorem bytes_great (a : Option Addr) (len cap : Nat) (i x : Int) (w : World) (h : 1048576 < len) :
    Calls Try.prog 12 #[.slice a len cap, .int .i64 i, .int .u8 x] w fun e w' => e = .returned (.bool false) ∧ w = w' := by
  go_enter Try.func12, Try.ntmps12
  go_wp2
  go_ret
  exact ⟨rfl, rfl⟩

set_option maxHeartbeats 400000 in
theorem walk_great (a : Option Addr) (len cap : Nat) (i x : Int) (w : World) (h : 1048576 < len) :
    Calls Try.prog 4 #[.slice a len cap, .int .i64 i, .int .u8 x] w fun e w' => e = .returned (.bool true) ∧ Below w.heap.size w w' := by
  go_enter Try.func4, Try.ntmps4
  go_wp2_with (go_at_call 12; refine (bytes_great _ _ _ _ _ _ h).mono ?_; rintro e w' ⟨rfl, rfl⟩)
  go_ret
  exact ⟨rfl, Below.refl _ _⟩

set_option maxHeartbeats 400000 in
theorem walk_out (a : Option Addr) (len cap : Nat) (i x : Int) (w : World) (h : len ≤ 1048576) (ho : 524288 < len ∨ i < 0 ∨ len < i) :
    Calls Try.prog 4 #[.slice a len cap, .int .i64 i, .int .u8 x] w fun e w' => e = .returned (.bool true) ∧ Below w.heap.size w w' := by
  by_cases h1 : 524288 < len
  · go_enter Try.func4, Try.ntmps4
    go_wp2_with (go_at_call 12; refine (bytes_small _ _ _ _ _ _ h).mono ?_; rintro e w' ⟨rfl, rfl⟩)
    go_ret
    exact ⟨rfl, Below.refl _ _⟩
  by_cases h2 : i < 0
  · go_enter Try.func4, Try.ntmps4
    go_wp2_with (go_at_call 12; refine (bytes_small _ _ _ _ _ _ h).mono ?_; rintro e w' ⟨rfl, rfl⟩)
    go_ret
    exact ⟨rfl, Below.refl _ _⟩
  have h3 : len < i := by omega
  go_enter Try.func4, Try.ntmps4
  go_wp2_with (go_at_call 12; refine (bytes_small _ _ _ _ _ _ h).mono ?_; rintro e w' ⟨rfl, rfl⟩)
  go_ret
  exact ⟨rfl, Below.refl _ _⟩


/-- A row that 'make' has just laid, read off what the law on make leaves. -/
theorem row_of_made {w1 : World} {base g n e : Nat} {z : Value} (hown : w1.ownsRow base e 1 (.slice (some ⟨g, 0, none⟩) n n) n (madeCells #[z] n).toList) :
    w1.heap[g]? = some (.cells (List.replicate n z).toArray e (0, 0)) := by
  rcases hown.2 with ⟨h, _⟩ | ⟨g', cap, cur, h, _, hg, _, _, hs, ht⟩
  · simp at h
  · simp only [Value.slice.injEq, Option.some.injEq, Addr.mk.injEq, and_true, true_and] at h
    obtain ⟨rfl, rfl⟩ := h
    have : cur.toList = List.replicate n z := by
      rw [List.take_of_length_le (by simp [hs])] at ht
      rw [ht, toList_madeCells_one]
    rw [hg, ← this]

theorem Try.size5 : (Try.prog.info? 5).map (·.size) = some 1 := by kernel_rfl

/-- The cells of a slice of bytes, as a list of values. -/
def cellsOf8 (len : Nat) (zs : List Int) : List Value := (zs.take len).map (Value.int .u8)
theorem cellsOf8_length {len : Nat} {zs : List Int} (h : len ≤ zs.length) : (cellsOf8 len zs).length = len := by simp [cellsOf8]; omega
theorem cellsOf8_get {len : Nat} {zs : List Int} (h : len ≤ zs.length) (j : Nat) (hj : j < len) : (cellsOf8 len zs)[j]? = some (.int .u8 (zs.getD j 0)) := by
  simp [cellsOf8, hj, List.getElem?_eq_getElem (show j < zs.length by omega)]
theorem cellsOf8_at {w : World} {ad : Addr} {len : Nat} {zs : List Int} (h : len ≤ zs.length) (hcell : ∀ j, j < len → w.cell? (ad.add j) = some (.int .u8 (zs.getD j 0))) :
    ∀ j v, (cellsOf8 len zs)[j]? = some v → w.cell? (ad.add j) = some v := by
  intro j v hv
  have hj : j < len := by have := (List.getElem?_eq_some_iff.1 hv).1; rw [cellsOf8_length h] at this; exact this
  rw [cellsOf8_get h j hj] at hv
  rw [hcell j hj]; exact hv
theorem cellsOf8_one {len : Nat} {zs : List Int} : ∀ v ∈ cellsOf8 len zs, v.oneCell' = true := ints_oneCell _ _

theorem insert_row {len n : Nat} {zs : List Int} {x : Int} (hn : n ≤ len) (hz : len ≤ zs.length) :
    splice ((splice (List.replicate (len + 1) (Value.int .u8 0)) 0 (cellsOf8 n zs)).set n (.int .u8 x)) (n + 1) ((cellsOf8 len zs).drop n) = cellsOf8 (len + 1) (zs.take n ++ x :: zs.drop n) := by
  have hA : (cellsOf8 n zs).length = n := cellsOf8_length (by omega)
  have hD : ((cellsOf8 len zs).drop n).length = len - n := by rw [List.length_drop, cellsOf8_length hz]
  have e1 : splice (List.replicate (len + 1) (Value.int .u8 0)) 0 (cellsOf8 n zs) = cellsOf8 n zs ++ List.replicate (len + 1 - n) (Value.int .u8 0) := by
    simp [splice, hA]
  have e2 : (cellsOf8 n zs ++ List.replicate (len + 1 - n) (Value.int .u8 0)).set n (.int .u8 x) = (cellsOf8 n zs ++ [.int .u8 x]) ++ List.replicate (len - n) (Value.int .u8 0) := by
    rw [List.set_append_right _ _ (by omega), hA, show len + 1 - n = (len - n) + 1 by omega, List.replicate_succ]
    simp
  rw [e1, e2]
  unfold splice
  rw [List.take_append_of_le_length (by simp [hA]), List.take_of_length_le (by simp [hA]), List.drop_eq_nil_of_le (i := n + 1 + ((cellsOf8 len zs).drop n).length) (by rw [hD]; simp only [List.length_append, List.length_cons, List.length_nil, List.length_replicate, hA]; omega), List.append_nil, List.append_assoc]
  unfold cellsOf8
  rw [show (zs.take n ++ x :: zs.drop n).take (len + 1) = zs.take n ++ x :: (zs.drop n).take (len - n) by
    rw [List.take_append, List.take_of_length_le (by simp; omega), List.length_take, Nat.min_eq_left (by omega), show len + 1 - n = (len - n) + 1 by omega, List.take_succ_cons]]
  rw [← List.map_drop, List.drop_take, List.map_append]
  rfl

theorem insert_first {len n : Nat} {zs : List Int} {x : Int} (hn : n ≤ len) (hz : len ≤ zs.length) : firstOf (len + 1) (zs.take n ++ x :: zs.drop n) = if n = 0 then x else firstOf len zs := by
  by_cases h : n = 0
  · subst h; simp [firstOf]
  · match zs, hz with
    | [], hz => simp at hz; omega
    | z :: zs, hz =>
      obtain ⟨m, rfl⟩ : ∃ m, n = m + 1 := ⟨n - 1, by omega⟩
      simp [firstOf, show len ≠ 0 by omega]

/-- ZZFirstTypeOfRaws at a row of the call's own. -/
theorem raws_row (g len cap : Nat) (zs : List Int) (w : World) (hl : len ≤ 1048577) (hz : len ≤ zs.length) (hg : w.heap[g]? = some (.cells (cellsOf8 len zs).toArray 5 (0, 0))) :
    Calls Try.prog 11 #[.slice (some ⟨g, 0, none⟩) len cap] w fun e w' => e = .returned (.int .u8 (firstOf len zs)) ∧ Below w.heap.size w w' := by
  by_cases h0 : len = 0
  · subst h0; exact raws_zero _ _ _ _
  · refine raws_some g 0 len cap zs w (by omega) hl fun i hi => ?_
    rw [Nat.zero_add, cell_of_row _ _ _ _ _ _ hg]
    simpa using cellsOf8_get hz i hi

/-- What a law on copy asks of its operands where a cell goes over at all: a name of its own, so that the walk leaves it standing. -/
def CopyPos (dp sp : Option Addr) (g off : Nat) (cs : List Value) (w : World) : Prop :=
  0 < cs.length → dp = some ⟨g, off, none⟩ ∧ ∃ ad, sp = some ad ∧ ∀ j v, cs[j]? = some v → w.cell? (ad.add j) = some v

set_option maxHeartbeats 400000 in
theorem walk_some (ad : Addr) (len cap n : Nat) (x : Int) (zs : List Int) (w : World) (h : len ≤ 524288) (hn : n ≤ len) (hz : len ≤ zs.length)
    (hcell : ∀ j, j < len → w.cell? (ad.add j) = some (.int .u8 (zs.getD j 0))) :
    Calls Try.prog 4 #[.slice (some ad) len cap, .int .i64 n, .int .u8 x] w fun e w' => e = .returned (.bool true) ∧ Below w.heap.size w w' := by
  obtain ⟨i0, hi, hz0, hz1, hz2⟩ := info_parts Try.info5
  go_enter Try.func4, Try.ntmps4
  go_wp2_with (first | (go_at_call 12; refine (bytes_small _ _ _ _ _ _ (by omega)).mono ?_; rintro e w' ⟨rfl, rfl⟩) | (at_make; refine wpList_make_full _ rfl (.tmp 31) (.tmp 31) 22 rfl w.heap.size 5 i0 (.int .u8 0) 1 Try.underlying22 hi hz0 hz1 _ _ _ _ len rfl rfl rfl rfl ?b2 ?b3 ?b4 ?_))
  case b2 => rw [hz2]; omega
  case b3 => unfold maxLen; omega
  case b4 => exact Nat.le_refl _
  intro w1 hown hgrow
  have hr1 := row_of_made hown
  have hb1 : Below w.heap.size w w1 := (Below.refl _ _).grown hgrow (Nat.le_refl _) (by simp)
  have HR1 := Hid.intro hr1
  clear hown hgrow hr1
  have n1 : (cellsOf8 len zs).length = Nat.min len len := by rw [cellsOf8_length hz]; simp
  have p1 : 0 < (cellsOf8 len zs).length → some (⟨w.heap.size, 0, none⟩ : Addr) = some ⟨w.heap.size, 0, none⟩ ∧ ∃ a, some ad = some a ∧ ∀ j v, (cellsOf8 len zs)[j]? = some v → w1.cell? (a.add j) = some v :=
    fun _ => ⟨rfl, ad, rfl, cellsOf8_at hz fun j hj => (by rw [hb1.cell (World.block_lt_of_cell? w _ (hcell j hj))]; exact hcell j hj)⟩
  have f1 : 0 + (cellsOf8 len zs).length ≤ (List.replicate len (Value.int .u8 0)).length := by rw [cellsOf8_length hz]; simp
  go_wp2_with (with_reducible refine at_copy ?_; refine wpList_copy_splice rfl (.tmp 33) (.tmp 34) 22 22 rfl 5 Try.underlying22 Try.size5 _ _ _ _ _ _ rfl rfl w.heap.size 0 (List.replicate len (.int .u8 0)) 5 HR1.out (cellsOf8 len zs) n1 p1 f1 cellsOf8_one w.heap.size w hb1 (Nat.le_refl _) ?_)
  intro w2 HR2 hb2
  have e2 : splice (List.replicate len (Value.int .u8 0)) 0 (cellsOf8 len zs) = cellsOf8 len zs := by simp [splice, cellsOf8_length hz]
  have HR2' : Hid (w2.heap[w.heap.size]? = some (.cells (cellsOf8 len zs).toArray 5 (0, 0))) := by rw [e2] at HR2; exact HR2
  clear HR1 n1 p1 f1 HR2 e2 hb1 hcell
  have hs2 : w.heap.size < w2.heap.size := (Array.getElem?_eq_some_iff.1 HR2'.out).1
  go_wp2_with (at_make; refine wpList_make_full _ rfl (.tmp 39) (.tmp 39) 22 rfl w.heap.size 5 i0 (.int .u8 0) 1 Try.underlying22 hi hz0 hz1 _ _ _ _ (len + 1) rfl rfl (by omega) (by omega) (by rw [hz2]; omega) (by unfold maxLen; omega) (by omega) ?_)
  intro w3 hown hgrow
  have HR3 := Hid.intro (row_of_made hown)
  have hb3 : Below w2.heap.size w2 w3 := (Below.refl _ _).grown hgrow (Nat.le_refl _) (by simp)
  clear hown hgrow
  have HR2 : Hid (w3.heap[w.heap.size]? = some (.cells (cellsOf8 len zs).toArray 5 (0, 0))) := (hb3.block _ hs2).trans HR2'.out
  have hn' : n ≤ zs.length := by omega
  have n4 : (cellsOf8 n zs).length = Nat.min n n := by rw [cellsOf8_length hn']; simp
  have p4 : CopyPos (some ⟨w2.heap.size, 0, none⟩) (some ⟨w.heap.size, 0, none⟩) w2.heap.size 0 (cellsOf8 n zs) w3.drew := by
    intro _
    refine ⟨rfl, _, rfl, cellsOf8_at hn' fun j hj => ?_⟩
    rw [Addr.add_lit, Nat.zero_add, cell_of_row _ _ _ _ _ _ (by exact HR2.out)]
    simpa using cellsOf8_get hz j (by omega)
  have f4 : 0 + (cellsOf8 n zs).length ≤ (List.replicate (len + 1) (Value.int .u8 0)).length := by rw [cellsOf8_length hn']; simp; omega
  have hbw : Below w.heap.size w w3 := hb2.trans (hb3.mono (by omega))
  clear hb2 HR2'
  have hn1 : (n : Int) ≤ (len : Int) + 1 := by omega
  go_wp2_with fail
  go_region_law (refine step_copy_splice rfl (.tmp 43) (.tmp 46) 22 22 rfl 5 Try.underlying22 Try.size5 (some ⟨w2.heap.size, 0, none⟩) (some ⟨w.heap.size, 0, none⟩) n (len + 1) n len (by simp [Act.eval, Act.put]) (by simp [Act.eval, Act.put]) w2.heap.size 0 (List.replicate (len + 1) (.int .u8 0)) 5 (by exact HR3.out) (cellsOf8 n zs) n4 (by exact p4) f4 cellsOf8_one w2.heap.size w3 (by exact (Below.refl _ _).drew) (Nat.le_refl _) ?_; intro w4 HR4 hb4)
  have hL4 : (splice (List.replicate (len + 1) (Value.int .u8 0)) 0 (cellsOf8 n zs)).length = len + 1 := by rw [length_splice _ _ _ f4]; simp
  have HB4 : Hid (w4.heap[w.heap.size]? = some (.cells (cellsOf8 len zs).toArray 5 (0, 0))) := (hb4.block _ hs2).trans HR2.out
  have hbw4 : Below w.heap.size w w4 := hbw.trans (hb4.mono (by omega))
  have hlt4 : n < (splice (List.replicate (len + 1) (Value.int .u8 0)) 0 (cellsOf8 n zs)).length := by rw [hL4]; omega
  obtain ⟨u, hu⟩ : ∃ u, w4.cell? ⟨w2.heap.size, n, none⟩ = some u := ⟨_, by rw [cell_of_row _ _ _ _ _ _ HR4.out, List.getElem?_toArray]; exact List.getElem?_eq_getElem hlt4⟩
  have hf : w4.frozen? ⟨w2.heap.size, n, none⟩ = false := frozen_of_row _ _ _ _ _ HR4.out
  have hgs : w2.heap.size < w4.heap.size := (Array.getElem?_eq_some_iff.1 HR4.out).1
  have HR5 : Hid ((w4.setCell ⟨w2.heap.size, n, none⟩ (.int .u8 x)).heap[w2.heap.size]? = some (.cells ((splice (List.replicate (len + 1) (Value.int .u8 0)) 0 (cellsOf8 n zs)).set n (.int .u8 x)).toArray 5 (0, 0))) := by
    refine Eq.trans (heap_setCell_same _ _ _ _ _ _ HR4.out) ?_
    simp
  have HB5 : Hid ((w4.setCell ⟨w2.heap.size, n, none⟩ (.int .u8 x)).heap[w.heap.size]? = some (.cells (cellsOf8 len zs).toArray 5 (0, 0))) := (heap_setCell_other _ _ _ _ (by simp; omega)).trans HB4.out
  have hbw5 : Below w.heap.size w (w4.setCell ⟨w2.heap.size, n, none⟩ (.int .u8 x)) := hbw4.setCell (by simp; omega) _
  clear HR3 HR4 HB4 HR2 hb4 hbw4 hbw hb3 p4 f4 n4 hL4 hlt4
  go_wp2_with fail
  clear hu hf
  have hsz5 : w2.heap.size < (w4.setCell ⟨w2.heap.size, n, none⟩ (.int .u8 x)).heap.size := (Array.getElem?_eq_some_iff.1 HR5.out).1
  generalize w4.setCell ⟨w2.heap.size, n, none⟩ (.int .u8 x) = w5 at *
  clear hgs w4
  have n6 : ((cellsOf8 len zs).drop n).length = Nat.min (len - n) (len - n) := by rw [List.length_drop, cellsOf8_length hz]; simp
  have o6 : ∀ v ∈ (cellsOf8 len zs).drop n, v.oneCell' = true := fun v hv => cellsOf8_one v (List.mem_of_mem_drop hv)
  have f6 : n + 1 + ((cellsOf8 len zs).drop n).length ≤ ((splice (List.replicate (len + 1) (Value.int .u8 0)) 0 (cellsOf8 n zs)).set n (.int .u8 x)).length := by
    rw [n6, List.length_set, length_splice _ _ _ (by rw [cellsOf8_length hn', List.length_replicate]; omega), List.length_replicate]; simp; omega
  have hn2 : (n : Int) ≤ (len : Int) := by omega
  have hw1 : IntKind.i64.wrap ((n : Int) + 1) = (n : Int) + 1 := by simp [IntKind.wrap_i64]; omega
  have hn3 : (0 : Int) ≤ (n : Int) + 1 := by omega
  have hn4 : (n : Int) + 1 ≤ (len : Int) + 1 := by omega
  have hn5 : ((n : Int) + 1).toNat = n + 1 := by omega
  have key : ∀ w6 : World, Hid (w6.heap[w2.heap.size]? = some (.cells (splice ((splice (List.replicate (len + 1) (Value.int .u8 0)) 0 (cellsOf8 n zs)).set n (.int .u8 x)) (n + 1) ((cellsOf8 len zs).drop n)).toArray 5 (0, 0))) → Below w2.heap.size w5 w6 → 
      w6.heap[w2.heap.size]? = some (.cells (cellsOf8 (len + 1) (zs.take n ++ x :: zs.drop n)).toArray 5 (0, 0)) ∧ w6.heap[w.heap.size]? = some (.cells (cellsOf8 len zs).toArray 5 (0, 0)) ∧ Below w.heap.size w w6 := by
    intro w6 h1 h2
    refine ⟨by rw [← insert_row hn hz]; exact h1.out, (h2.block _ hs2).trans HB5.out, hbw5.trans (h2.mono (by omega))⟩
  have KEY := Hid.intro key
  clear key
  by_cases hlt : n < len
  · have hne : ¬ len = n := by omega
    have p6 : CopyPos (some ⟨w2.heap.size, n + 1, none⟩) (some ⟨w.heap.size, n, none⟩) w2.heap.size (n + 1) ((cellsOf8 len zs).drop n) w5.drew := by
      intro _
      refine ⟨rfl, _, rfl, fun j v hj => ?_⟩
      rw [Addr.add_lit, cell_of_row _ _ _ _ _ _ (by exact HB5.out)]
      rw [List.getElem?_drop] at hj
      simpa using hj
    go_region_law (refine step_copy_splice rfl (.tmp 55) (.tmp 58) 22 22 rfl 5 Try.underlying22 Try.size5 (some ⟨w2.heap.size, n + 1, none⟩) (some ⟨w.heap.size, n, none⟩) (len - n) (len - n) (len - n) (len - n) (by simp [Act.eval, Act.put]) (by simp [Act.eval, Act.put]) w2.heap.size (n + 1) _ 5 (by exact HR5.out) _ n6 (by exact p6) f6 o6 w2.heap.size w5 (by exact (Below.refl _ _).drew) (Nat.le_refl _) ?_; intro w6 HR6 hb6)
    obtain ⟨K1, K2, K3⟩ := KEY.out w6 HR6 hb6
    clear KEY HR6 hb6 HR5 HB5 hbw5 p6 f6 o6 n6
    have hz' : len + 1 ≤ (zs.take n ++ x :: zs.drop n).length := by simp; omega
    have r1 := raws_row w2.heap.size (len + 1) (len + 1) (zs.take n ++ x :: zs.drop n) w6 (by omega) hz' K1
    rw [insert_first hn hz] at r1
    generalize hgot : (if n = 0 then x else firstOf len zs) = got at r1
    have HG := Hid.intro hgot
    have R1 := Hid.intro r1
    have K2' := Hid.intro K2
    have hs6 : w.heap.size < w6.heap.size := (Array.getElem?_eq_some_iff.1 K2).1
    clear K1 r1 K2 hz' hgot
    go_wp2_with fail
    refine R1.out.mono ?_
    rintro e w7 ⟨rfl, hb7⟩
    have R2 := Hid.intro (raws_row w.heap.size len len zs w7 (by omega) hz ((hb7.block _ hs6).trans K2'.out))
    have hs7 : w.heap.size < w7.heap.size := by have := hb7.size; omega
    have hB7 : Hid (w7.heap[w.heap.size]? = some (.cells (cellsOf8 len zs).toArray 5 (0, 0))) := (hb7.block _ hs6).trans K2'.out
    have hbw7 : Below w.heap.size w w7 := K3.trans (hb7.mono (by omega))
    clear K2' R1 hb7 K3
    go_wp2_with fail
    refine R2.out.mono ?_
    rintro e w8 ⟨rfl, hb8⟩
    have HB8 := Hid.intro (hbw7.trans (hb8.mono (Nat.le_of_lt hs7)))
    have hc : 0 < len → w8.cell? ⟨w.heap.size, 0, none⟩ = some (.int .u8 (firstOf len zs)) := by
      intro hl0
      rw [cell_of_row _ _ _ _ _ _ ((hb8.block _ hs7).trans hB7.out), List.getElem?_toArray]
      rw [show firstOf len zs = zs.getD 0 0 by simp [firstOf, show len ≠ 0 by omega]]
      exact cellsOf8_get hz 0 hl0
    clear hb8 hbw7 hB7 R2
    by_cases hn0 : n = 0
    · have hn0' : ((n : Int) == 0) = true := by simp; omega
      obtain rfl : x = got := by have := HG.out; rwa [if_pos hn0] at this
      by_cases hl0 : len = 0
      · omega
      · have hl0' : (0 : Int) < (len : Int) := by omega
        have hc' := hc (by omega)
        go_wp2_with fail
        go_ret
        exact ⟨rfl, HB8.out⟩
    · have hn0' : ((n : Int) == 0) = false := by simp; omega
      obtain rfl : firstOf len zs = got := by have := HG.out; rwa [if_neg hn0] at this
      have hl0' : (0 : Int) < (len : Int) := by omega
      have hc' := hc (by omega)
      go_wp2_with fail
      go_ret
      exact ⟨rfl, HB8.out⟩
  · obtain rfl : n = len := by omega
    have p6 : CopyPos (some ⟨w2.heap.size, 0, none⟩) (some ⟨w.heap.size, 0, none⟩) w2.heap.size (n + 1) ((cellsOf8 n zs).drop n) w5.drew := by
      intro h
      rw [n6] at h; simp at h
    go_region_law (refine step_copy_splice rfl (.tmp 55) (.tmp 58) 22 22 rfl 5 Try.underlying22 Try.size5 (some ⟨w2.heap.size, 0, none⟩) (some ⟨w.heap.size, 0, none⟩) (n - n) (n - n) (n - n) (n - n) (by simp [Act.eval, Act.put]) (by simp [Act.eval, Act.put]) w2.heap.size (n + 1) _ 5 (by exact HR5.out) _ n6 (by exact p6) f6 o6 w2.heap.size w5 (by exact (Below.refl _ _).drew) (Nat.le_refl _) ?_; intro w6 HR6 hb6)
    obtain ⟨K1, K2, K3⟩ := KEY.out w6 HR6 hb6
    clear KEY HR6 hb6 HR5 HB5 hbw5 p6 f6 o6 n6
    have hz' : n + 1 ≤ (zs.take n ++ x :: zs.drop n).length := by simp; omega
    have r1 := raws_row w2.heap.size (n + 1) (n + 1) (zs.take n ++ x :: zs.drop n) w6 (by omega) hz' K1
    rw [insert_first hn hz] at r1
    generalize hgot : (if n = 0 then x else firstOf n zs) = got at r1
    have HG := Hid.intro hgot
    have R1 := Hid.intro r1
    have K2' := Hid.intro K2
    have hs6 : w.heap.size < w6.heap.size := (Array.getElem?_eq_some_iff.1 K2).1
    clear K1 r1 K2 hz' hgot
    go_wp2_with fail
    refine R1.out.mono ?_
    rintro e w7 ⟨rfl, hb7⟩
    have R2 := Hid.intro (raws_row w.heap.size n n zs w7 (by omega) hz ((hb7.block _ hs6).trans K2'.out))
    have hs7 : w.heap.size < w7.heap.size := by have := hb7.size; omega
    have hB7 : Hid (w7.heap[w.heap.size]? = some (.cells (cellsOf8 n zs).toArray 5 (0, 0))) := (hb7.block _ hs6).trans K2'.out
    have hbw7 : Below w.heap.size w w7 := K3.trans (hb7.mono (by omega))
    clear K2' R1 hb7 K3
    go_wp2_with fail
    refine R2.out.mono ?_
    rintro e w8 ⟨rfl, hb8⟩
    have HB8 := Hid.intro (hbw7.trans (hb8.mono (Nat.le_of_lt hs7)))
    have hc : 0 < n → w8.cell? ⟨w.heap.size, 0, none⟩ = some (.int .u8 (firstOf n zs)) := by
      intro hl0
      rw [cell_of_row _ _ _ _ _ _ ((hb8.block _ hs7).trans hB7.out), List.getElem?_toArray]
      rw [show firstOf n zs = zs.getD 0 0 by simp [firstOf, show n ≠ 0 by omega]]
      exact cellsOf8_get hz 0 hl0
    clear hb8 hbw7 hB7 R2
    by_cases hn0 : n = 0
    · have hn0' : ((n : Int) == 0) = true := by simp; omega
      obtain rfl : x = got := by have := HG.out; rwa [if_pos hn0] at this
      by_cases hl0 : n = 0
      · have hl0' : ¬ (0 : Int) < (n : Int) := by omega
        have hf0 : firstOf n zs = 0 := by simp [firstOf, hl0]
        go_wp2_with fail
        go_ret
        exact ⟨rfl, HB8.out⟩
      · omega
    · have hn0' : ((n : Int) == 0) = false := by simp; omega
      obtain rfl : firstOf n zs = got := by have := HG.out; rwa [if_neg hn0] at this
      have hl0' : (0 : Int) < (n : Int) := by omega
      have hc' := hc (by omega)
      go_wp2_with fail
      go_ret
      exact ⟨rfl, HB8.out⟩

end Go.Proofs.Qxb6613140a

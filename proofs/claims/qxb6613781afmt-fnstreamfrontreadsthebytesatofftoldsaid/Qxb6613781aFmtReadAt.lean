import Derived.Test.Qxb6613781aFmtBase
namespace Go.Proofs.Qxb6613781aFmt
open Go.Extern.Stop Go.Stop Go.Extern
open Go.ChangeShapes Go.WideShapes Go.ChangeAt Go.RowKit

/-- k bytes of l from off on (fewer where l ends). -/
def cut (l : List UInt8) (off k : Nat) : List UInt8 := (l.drop off).take k
theorem cut_length (l : List UInt8) (off k : Nat) : (cut l off k).length = Nat.min k (l.length - off) := by simp [cut]
theorem cut_src {w : World} {g : Nat} {l : List UInt8} (h : Row w g l) (off k : Nat) : SrcPos (some ⟨g, off, none⟩) (cut l off k) w := by
  intro _
  refine ⟨_, rfl, fun j v hv => ?_⟩
  have hj : j < (cut l off k).length := by have := (List.getElem?_eq_some_iff.1 hv).1; simpa [Lib.byteCells] using this
  rw [cut_length] at hj
  have hj1 : j < k := Nat.lt_of_lt_of_le hj (Nat.min_le_left _ _)
  have hj2 : off + j < l.length := by have := Nat.lt_of_lt_of_le hj (Nat.min_le_right _ _); omega
  rw [Addr.add_lit, h.cell (off + j) hj2, ← hv]
  simp [Lib.byteCells, cut, List.getD, hj1, List.getElem?_eq_getElem hj2]

/-- A negative offset: a new error. -/
theorem readAt_neg (R : Nat) (bd : Option Addr) (m cb : Nat) (off : Int) (w : World) (h : off < 0) :
    Calls Tryf.prog 37 #[.pointer (some ⟨R, 0, none⟩), .slice bd m cb, .int .i64 off] w fun e w' => e = .returned (.tuple #[.int .i64 0, .iface 52 (.pointer (some ⟨w.heap.size, 0, none⟩))]) ∧ (∃ ca ta, w'.heap[w.heap.size]? = some (.cells ca ta (0, 0))) ∧ Below w.heap.size w w' := by
  go_enter Tryf.func37, Tryf.ntmps37
  go_wp2
  go_ret2
  exact ⟨rfl, ⟨_, _, heap_alloc_new _ _⟩, (Below.refl _ _).alloc (Nat.le_refl _) _⟩

/-- An offset at or behind the end: io.EOF. -/
theorem readAt_far (R : Nat) (bd : Option Addr) (m cb n c : Nat) (a : Option Addr) (i pr off : Int) (ev : Value) (w : World) (hr : RdAt w R (.slice a n c) i pr) (hg : w.cell? ⟨0, 0, none⟩ = some ev) (h0 : 0 ≤ off) (h : n ≤ off) :
    Calls Tryf.prog 37 #[.pointer (some ⟨R, 0, none⟩), .slice bd m cb, .int .i64 off] w fun e w' => e = .returned (.tuple #[.int .i64 0, ev]) ∧ Below w.heap.size w w' := by
  have hc := hr.cell0
  go_enter Tryf.func37, Tryf.ntmps37
  go_wp2_with fail
  go_quiet (fail)
  go_wp2_with fail
  go_ret2
  exact ⟨rfl, below_drewN (Below.refl _ _) _⟩

/-- An offset within the bytes; all that was asked for is there. -/
theorem readAt_full (R : Nat) (g m cb n c ga : Nat) (i pr : Int) (off : Nat) (pl dl : List UInt8) (w : World) (hr : RdAt w R (.slice (some ⟨ga, 0, none⟩) n c) i pr)
    (_hm : m ≤ 1048576) (_hn : n ≤ 1048576) (hnc : n ≤ c) (hp : Row w g pl) (hpl : pl.length = m) (hd : Row w ga dl) (hdl : dl.length = n) (h : off < n) (hmn : m ≤ n - off) :
    Calls Tryf.prog 37 #[.pointer (some ⟨R, 0, none⟩), .slice (some ⟨g, 0, none⟩) m cb, .int .i64 off] w fun e w' => e = .returned (.tuple #[.int .i64 m, .nilIface]) ∧ Row w' g (splice pl 0 (cut dl off m)) ∧ Kept [g] w w' := by
  have hc := hr.cell0
  have hx : (cut dl off m).length = m := by rw [cut_length, hdl]; exact Nat.min_eq_left hmn
  have HN1 : Hid ((cut dl off m).length = Nat.min (n - off) m) := by rw [hx]; exact hide (Nat.min_eq_right hmn).symm
  have hdp : DstPos (some ⟨g, 0, none⟩) g 0 (cut dl off m) := fun _ => rfl
  have hsp : SrcPos (some ⟨ga, off, none⟩) (cut dl off m) w := cut_src hd off m
  have hfit : 0 + (cut dl off m).length ≤ pl.length := by rw [hx, hpl]; omega
  have HP := hide hp
  have HX := hide hx
  have hco : ¬ c = off := by omega
  clear hx hp hd hdl hpl hr
  go_enter Tryf.func37, Tryf.ntmps37
  go_wp2_with ((with_reducible refine at_copy ?_); refine wpList_copy_kept rfl (.tmp 19) (.tmp 25) 22 22 rfl Tryf.underlying22 Tryf.size5 _ _ _ _ _ _ rfl rfl g 0 pl (cut dl off m) HP.out HN1.out hdp hsp hfit ?_)
  intro w2 HR2 hk2
  rw [HX.out]
  have HK := hide hk2
  clear hk2 HP HN1 hdp hsp hfit HX
  go_wp2_with fail
  go_ret2
  exact ⟨rfl, HR2.out, HK.out⟩

/-- An offset within the bytes; they end first: what is there, and io.EOF. -/
theorem readAt_short (R : Nat) (g m cb n c ga : Nat) (i pr : Int) (off : Nat) (pl dl : List UInt8) (ev : Value) (w : World) (hr : RdAt w R (.slice (some ⟨ga, 0, none⟩) n c) i pr) (hg : w.cell? ⟨0, 0, none⟩ = some ev)
    (_hm : m ≤ 1048576) (_hn : n ≤ 1048576) (hnc : n ≤ c) (hp : Row w g pl) (hpl : pl.length = m) (hd : Row w ga dl) (hdl : dl.length = n) (h : off < n) (h0g : 0 ≠ g) (hmn : n - off < m) :
    Calls Tryf.prog 37 #[.pointer (some ⟨R, 0, none⟩), .slice (some ⟨g, 0, none⟩) m cb, .int .i64 off] w fun e w' => e = .returned (.tuple #[.int .i64 (n - off : Nat), ev]) ∧ Row w' g (splice pl 0 (cut dl off m)) ∧ Kept [g] w w' := by
  have hc := hr.cell0
  have hx : (cut dl off m).length = n - off := by rw [cut_length, hdl]; exact Nat.min_eq_right (Nat.le_of_lt hmn)
  have HN1 : Hid ((cut dl off m).length = Nat.min (n - off) m) := by rw [hx]; exact hide (Nat.min_eq_left (Nat.le_of_lt hmn)).symm
  have hdp : DstPos (some ⟨g, 0, none⟩) g 0 (cut dl off m) := fun _ => rfl
  have hsp : SrcPos (some ⟨ga, off, none⟩) (cut dl off m) w := cut_src hd off m
  have hfit : 0 + (cut dl off m).length ≤ pl.length := by rw [hx, hpl]; omega
  have hg0 : 0 < w.heap.size := World.block_lt_of_cell? w _ hg
  have HP := hide hp
  have HX := hide hx
  have hco : ¬ c = off := by omega
  clear hx hp hd hdl hpl hr
  go_enter Tryf.func37, Tryf.ntmps37
  go_wp2_with ((with_reducible refine at_copy ?_); refine wpList_copy_kept rfl (.tmp 19) (.tmp 25) 22 22 rfl Tryf.underlying22 Tryf.size5 _ _ _ _ _ _ rfl rfl g 0 pl (cut dl off m) HP.out HN1.out hdp hsp hfit ?_)
  intro w2 HR2 hk2
  rw [HX.out]
  have hg2 : w2.cell? ⟨0, 0, none⟩ = some ev := (hk2.cell (p := ⟨0, 0, none⟩) hg0 (by simpa using h0g)).trans hg
  have HK := hide hk2
  have hcmp : ((n - off : Nat) : Int) < (m : Int) := by omega
  clear hk2 HP HN1 hdp hsp hfit HX hg
  generalize hk : n - off = k at *
  have HKK := hide hk
  clear hk
  go_wp2_with fail
  go_ret2
  refine ⟨?_, HR2.out, HK.out⟩
  rw [HKK.out]
  rfl

/-- Nothing was asked for. -/
theorem readAt_zero (R : Nat) (bd : Option Addr) (cb n c : Nat) (a : Option Addr) (i pr off : Int) (ev : Value) (w : World) (hr : RdAt w R (.slice a n c) i pr) (hg : w.cell? ⟨0, 0, none⟩ = some ev) (hnc : n ≤ c) :
    Calls Tryf.prog 37 #[.pointer (some ⟨R, 0, none⟩), .slice bd 0 cb, .int .i64 off] w fun e w' => ∃ x, e = .returned (.tuple #[.int .i64 0, x]) ∧ Below w.heap.size w w' := by
  by_cases h0 : off < 0
  · exact (readAt_neg R bd 0 cb off w h0).mono fun e w' ⟨he, _, hb⟩ => ⟨_, he, hb⟩
  by_cases h1 : n ≤ off
  · exact (readAt_far R bd 0 cb n c a i pr off ev w hr hg (by omega) h1).mono fun e w' ⟨he, hb⟩ => ⟨_, he, hb⟩
  obtain ⟨o, rfl⟩ := Int.eq_ofNat_of_zero_le (show 0 ≤ off by omega)
  have hc := hr.cell0
  have hco : ¬ c = o := by omega
  go_enter Tryf.func37, Tryf.ntmps37
  go_wp2_with ((with_reducible refine at_copy ?_); refine wpList_copy_nothing rfl (.tmp 19) (.tmp 25) 22 22 rfl 5 Tryf.underlying22 Tryf.size5 _ _ _ _ _ _ rfl rfl (Nat.min_zero _) ?_)
  all_goals
    go_ret2
    exact ⟨⟨_, rfl⟩, Below.refl _ _⟩
end Go.Proofs.Qxb6613781aFmt

import Derived.Test.Qxb6613781aFmtRead
namespace Go.Proofs.Qxb6613781aFmt
open Go.Extern.Stop Go.Stop Go.Extern
open Go.ChangeShapes Go.WideShapes Go.ChangeAt Go.RowKit

theorem nil_read (a : Addr) (w : World) : (nilAhead 177 30 (.pointer (some a)) "Read").run Tryf.prog w = .ok (some false) w := by kernel_rfl
theorem method_read (a : Addr) (w : World) : (method 177 30 (.pointer (some a)) "Read").run Tryf.prog w = .ok (36, .pointer (some a)) w := by kernel_rfl

theorem least_zero (R : Nat) (bd : Option Addr) (cb : Nat) (w : World) :
    Calls Tryf.prog 19 #[.iface 30 (.pointer (some ⟨R, 0, none⟩)), .slice bd 0 cb, .int .i64 0] w fun e w' => e = .returned (.tuple #[.int .i64 0, .nilIface]) ∧ w = w' := by
  go_enter Tryf.func19, Tryf.ntmps19
  go_wp2_with fail
  refine wp_loop_rounds 1 ?_
  rw [rounds_succ]
  go_wp2_with fail
  go_ret2
  exact ⟨rfl, rfl⟩

set_option maxHeartbeats 800000 in
theorem least_eof (R g m cb n c : Nat) (a : Option Addr) (i pr : Int) (ae : Addr) (w : World) (hr : RdAt w R (.slice a n c) i pr) (hg : w.cell? ⟨0, 0, none⟩ = some (.iface 52 (.pointer (some ae)))) (h : n ≤ i) (hm : 0 < m) :
    Calls Tryf.prog 19 #[.iface 30 (.pointer (some ⟨R, 0, none⟩)), .slice (some ⟨g, 0, none⟩) m cb, .int .i64 m] w fun e w' => e = .returned (.tuple #[.int .i64 0, .iface 52 (.pointer (some ae))]) ∧ Below w.heap.size w w' := by
  have C := hide (fun bd mm cc => read_eof R bd mm cc n c a i pr _ w.drew hr hg h)
  have hnr := nil_read
  have hmr := method_read
  have hd1 : decide ((0 : Int) < (m : Int)) = true := by simp; omega
  have hi1 : (0 : Int) ≤ (m : Int) := by omega
  go_enter Tryf.func19, Tryf.ntmps19
  go_wp2_with fail
  refine wp_loop_rounds 2 ?_
  rw [rounds_succ]
  go_wp2_with fail
  go_region_held3 (fun _ => True) (trivial) ((go_at_call 36; refine (C.out _ _ _).mono ?_; rintro e w1 ⟨rfl, hb1⟩))
  have HB1 : Hid (Below w.heap.size w w1) := (Below.refl _ _).drew.trans hb1
  clear hb1 C hr hg
  go_wp2_with fail
  rw [rounds_succ]
  go_wp2_with fail
  go_ret2
  exact ⟨rfl, HB1.out⟩

set_option maxHeartbeats 800000 in
theorem least_full (R g m cb n c ga i : Nat) (pr : Int) (cur dl : List UInt8) (w : World) (hr : RdAt w R (.slice (some ⟨ga, 0, none⟩) n c) i pr) (hp : Row w g cur) (hpl : cur.length = m) (hd : Row w ga dl) (hdl : dl.length = n)
    (hn : n ≤ 1048576) (hnc : n ≤ c) (h : i < n) (hgR : g ≠ R) (hgaR : ga ≠ R) (hm : 0 < m) (hmn : m ≤ n - i) :
    Calls Tryf.prog 19 #[.iface 30 (.pointer (some ⟨R, 0, none⟩)), .slice (some ⟨g, 0, none⟩) m cb, .int .i64 m] w fun e w' => e = .returned (.tuple #[.int .i64 m, .nilIface]) ∧ Row w' g (splice cur 0 (cut dl i m)) ∧ Kept [g, R] w w' := by
  have hx : (cut dl i m).length = m := by rw [cut_length, hdl]; exact Nat.min_eq_left hmn
  have c36 := fun cc => read_some R g 0 m cc n c ga i pr cur dl w.drew hr hp (by omega) hd hdl hn hnc h hgR hgaR
  rw [hx] at c36
  have C := hide c36
  have hnr := nil_read
  have hmr := method_read
  have hd1 : decide ((0 : Int) < (m : Int)) = true := by simp; omega
  have hi1 : (0 : Int) ≤ (m : Int) := by omega
  have hm1 : m ≤ 1048576 := by omega
  clear c36 hx hr hp hd hpl hdl
  go_enter Tryf.func19, Tryf.ntmps19
  go_wp2_with fail
  refine wp_loop_rounds 2 ?_
  rw [rounds_succ]
  go_wp2_with fail
  go_region_held3 (fun _ => True) (trivial) ((go_at_call 36; refine (C.out _).mono ?_; rintro e w1 ⟨rfl, hR1, hD1, hK1⟩))
  have HR1 := hide hR1
  have HK1 : Hid (Kept [g, R] w w1) := (Kept.refl _ _).drew.trans hK1
  clear hR1 hD1 hK1 C
  go_wp2_with fail
  rw [rounds_succ]
  go_wp2_with fail
  go_ret2
  exact ⟨rfl, HR1.out, HK1.out⟩

set_option maxHeartbeats 800000 in
theorem least_short (R g m cb n c ga i : Nat) (pr : Int) (cur dl : List UInt8) (ae au : Addr) (w : World) (hr : RdAt w R (.slice (some ⟨ga, 0, none⟩) n c) i pr) (hp : Row w g cur) (hpl : cur.length = m) (hd : Row w ga dl) (hdl : dl.length = n)
    (hg : w.cell? ⟨0, 0, none⟩ = some (.iface 52 (.pointer (some ae)))) (hu : w.cell? ⟨1, 0, none⟩ = some (.iface 52 (.pointer (some au))))
    (hn : n ≤ 1048576) (hnc : n ≤ c) (h : i < n) (hgR : g ≠ R) (hgaR : ga ≠ R) (hmn : n - i < m) (hm1 : m ≤ 1048576) (hcb : m ≤ cb) (h1g : 1 < g) (h1R : 1 < R) :
    Calls Tryf.prog 19 #[.iface 30 (.pointer (some ⟨R, 0, none⟩)), .slice (some ⟨g, 0, none⟩) m cb, .int .i64 m] w fun e w' => e = .returned (.tuple #[.int .i64 (n - i : Nat), .iface 52 (.pointer (some au))]) ∧ Row w' g (splice cur 0 (cut dl i m)) ∧ Kept [g, R] w w' := by
  have hx : (cut dl i m).length = n - i := by rw [cut_length, hdl]; exact Nat.min_eq_right (Nat.le_of_lt hmn)
  have hw1 : 1 < w.heap.size := World.block_lt_of_cell? w _ hu
  have c36 := fun cc => read_some R g 0 m cc n c ga i pr cur dl w.drew hr hp (by omega) hd hdl hn hnc h hgR hgaR
  rw [hx] at c36
  have C := hide c36
  have hnr := nil_read
  have hmr := method_read
  have hq := eql_same ae
  have hd1 : decide ((0 : Int) < (m : Int)) = true := by simp; omega
  have hi1 : (0 : Int) ≤ (m : Int) := by omega
  have HG := hide hg
  have HU := hide hu
  clear c36 hx hr hp hd hpl hdl hg hu
  have hni : n - i + i = n := by omega
  have HNI := hide hni
  clear hni
  generalize hk : n - i = k at *
  clear hk
  have hk0 : 0 < k := by have := HNI.out; omega
  go_enter Tryf.func19, Tryf.ntmps19
  go_wp2_with fail
  refine wp_loop_rounds 3 ?_
  rw [rounds_succ]
  go_wp2_with fail
  go_region_held3 (fun _ => True) (trivial) ((go_at_call 36; refine (C.out _).mono ?_; rintro e w1 ⟨rfl, hR1, hD1, hK1⟩))
  have HR1 := hide hR1
  have HK1 : Hid (Kept [g, R] w w1) := (Kept.refl _ _).drew.trans hK1
  have hg1 := (HK1.out.cell (p := ⟨0, 0, none⟩) (by show 0 < w.heap.size; omega) (by simp; omega)).trans HG.out
  have C2 := hide (fun bd mm cc => read_eof R bd mm cc n c _ _ _ _ w1.drew hD1 hg1 (by have := HNI.out; omega))
  have HG1 := hide hg1
  have hd2 : decide ((k : Int) < (m : Int)) = true := by simp; omega
  have hi2 : (0 : Int) ≤ (k : Int) := by omega
  have hi3 : (k : Int) ≤ (m : Int) := by omega
  clear hR1 hD1 hK1 C hg1
  go_wp2_with fail
  rw [rounds_succ]
  go_wp2_with fail
  go_region_held3 (fun _ => True) (trivial) ((go_at_call 36; refine (C2.out _ _ _).mono ?_; rintro e w2 ⟨rfl, hb2⟩))
  have hb12 : Below w1.heap.size w1 w2 := (Below.refl _ _).drew.trans hb2
  have HK2 : Hid (Kept [g, R] w w2) := HK1.out.trans (Kept.of_below hb12)
  have HR2 : Hid (Row w2 g (splice cur 0 (cut dl i m))) := HR1.out.later (Kept.of_below (S := []) hb12) (by simp)
  have hg2 := (HK2.out.cell (p := ⟨0, 0, none⟩) (by show 0 < w.heap.size; omega) (by simp; omega)).trans HG.out
  have hu2 := (HK2.out.cell (p := ⟨1, 0, none⟩) hw1 (by simp; omega)).trans HU.out
  clear hb12 hb2 C2 HR1 HK1 HG1 HG HU
  go_wp2_with fail
  rw [rounds_succ]
  go_wp2_with fail
  go_ret2
  exact ⟨rfl, HR2.out, HK2.out⟩
end Go.Proofs.Qxb6613781aFmt

import Derived.Test.Qxb6613781aFmtFileAt
namespace Go.Proofs.Qxb6613781aFmt
open Go.Extern.Stop Go.Stop Go.Extern
open Go.ChangeShapes Go.WideShapes Go.ChangeAt Go.RowKit

/-- At the end: io.EOF. -/
theorem read_eof (R : Nat) (bd : Option Addr) (m cb n c : Nat) (a : Option Addr) (i pr : Int) (ev : Value) (w : World) (hr : RdAt w R (.slice a n c) i pr) (hg : w.cell? ⟨0, 0, none⟩ = some ev) (h : n ≤ i) :
    Calls Tryf.prog 36 #[.pointer (some ⟨R, 0, none⟩), .slice bd m cb] w fun e w' => e = .returned (.tuple #[.int .i64 0, ev]) ∧ Below w.heap.size w w' := by
  have hc := hr.cell0
  have hc1 := hr.cell1
  go_enter Tryf.func36, Tryf.ntmps36
  go_wp2_with fail
  go_quiet (fail)
  go_wp2_with fail
  go_quiet (fail)
  go_wp2_with fail
  go_ret2
  exact ⟨rfl, below_drewN (below_drewN (Below.refl _ _) _) _⟩

set_option maxHeartbeats 800000 in
/-- Bytes are left: as many as there is room for. -/
theorem read_some (R g o m cb n c ga i : Nat) (pr : Int) (cur dl : List UInt8) (w : World) (hr : RdAt w R (.slice (some ⟨ga, 0, none⟩) n c) i pr) (hp : Row w g cur) (hfit : o + m ≤ cur.length) (hd : Row w ga dl) (hdl : dl.length = n)
    (hn : n ≤ 1048576) (hnc : n ≤ c) (h : i < n) (hgR : g ≠ R) (hgaR : ga ≠ R) :
    Calls Tryf.prog 36 #[.pointer (some ⟨R, 0, none⟩), .slice (some ⟨g, o, none⟩) m cb] w fun e w' => e = .returned (.tuple #[.int .i64 (cut dl i m).length, .nilIface]) ∧ Row w' g (splice cur o (cut dl i m)) ∧
      RdAt w' R (.slice (some ⟨ga, 0, none⟩) n c) ((i : Int) + ((cut dl i m).length : Int)) (-1) ∧ Kept [g, R] w w' := by
  have hc0 := hr.cell0
  have hc1 := hr.cell1
  have hc2 := hr.cell2
  have hf := hr.free
  have hlt : R < w.heap.size := hr.lt
  have hx : (cut dl i m).length = Nat.min m (n - i) := by rw [cut_length, hdl]
  have hx1 : (cut dl i m).length ≤ m := by rw [hx]; exact Nat.min_le_left _ _
  have hx2 : (cut dl i m).length ≤ n - i := by rw [hx]; exact Nat.min_le_right _ _
  have HX : Hid ((cut dl i m).length = Nat.min (n - i) m) := by rw [hx]; exact hide (Nat.min_comm _ _)
  have hci : ¬ c = i := by omega
  have D3 := hide ((hr.set2 (-1)))
  have k3 : Kept [g, R] w (w.setCell ⟨R, 2, none⟩ (.int .i64 (-1))) := (Kept.refl _ _).setCell (p := ⟨R, 2, none⟩) (by simp) _
  have HP3 := hide (hp.later ((Kept.refl [R] w).setCell (p := ⟨R, 2, none⟩) (by simp) (.int .i64 (-1))) (by simpa using hgR))
  have HD3 := hide (hd.later ((Kept.refl [R] w).setCell (p := ⟨R, 2, none⟩) (by simp) (.int .i64 (-1))) (by simpa using hgaR))
  have HK3 := hide k3
  clear hx hr hp hd hdl k3
  go_enter Tryf.func36, Tryf.ntmps36
  go_wp2_with fail
  go_quiet (fail)
  go_wp2_with fail
  have d3 : RdAt ((w.drewN nq).setCell ⟨R, 2, none⟩ (.int .i64 (-1))) R (.slice (some ⟨ga, 0, none⟩) n c) i (-1) := D3.out
  have p3 : Row ((w.drewN nq).setCell ⟨R, 2, none⟩ (.int .i64 (-1))) g cur := HP3.out
  have e3 : Row ((w.drewN nq).setCell ⟨R, 2, none⟩ (.int .i64 (-1))) ga dl := HD3.out
  have k3 : Kept [g, R] w ((w.drewN nq).setCell ⟨R, 2, none⟩ (.int .i64 (-1))) := ((Kept.refl _ _).drewN nq).setCell (p := ⟨R, 2, none⟩) (by simp) _
  clear D3 HP3 HD3 HK3 hc0 hc1 hc2 hf
  generalize (w.drewN nq).setCell ⟨R, 2, none⟩ (.int .i64 (-1)) = w3 at *
  have c0 := d3.cell0
  have c1 := d3.cell1
  have hdp : DstPos (some ⟨g, o, none⟩) g o (cut dl i m) := fun _ => rfl
  have hsp : SrcPos (some ⟨ga, i, none⟩) (cut dl i m) w3.drew := cut_src (w := w3.drew) e3 i m
  have hf2 : o + (cut dl i m).length ≤ cur.length := by omega
  have hi1 : (i : Int) ≤ (n : Int) := by omega
  have D3 : Hid (RdAt w3.drew R (.slice (some ⟨ga, 0, none⟩) n c) i (-1)) := d3
  have P3 : Hid (Row w3.drew g cur) := p3
  have K3 : Hid (Kept [g, R] w w3.drew) := k3.drew
  clear d3 p3 k3 e3
  go_region_held3 (fun w' => w'.cell? ⟨R, 0, none⟩ = some (.slice (some ⟨ga, 0, none⟩) n c) ∧ w'.cell? ⟨R, 1, none⟩ = some (.int .i64 i)) (go_keep)
    ((refine step_copy_kept rfl (.tmp 20) (.tmp 29) 22 22 rfl Tryf.underlying22 Tryf.size5 (some ⟨g, o, none⟩) (some ⟨ga, i, none⟩) m cb (n - i) (c - i) (by simp [Act.eval]) (by simp [Act.eval]) g o cur (cut dl i m) (by exact P3.out) HX.out hdp (by exact hsp) hf2 ?_; intro w4 HR4 hk4; have d4 := D3.out.later (w' := w4) hk4 (by simpa using fun e => hgR e.symm); have c04 := d4.cell0; have c14 := d4.cell1))
  have hf4 := d4.free
  have hl4 := d4.lt
  have D4 := hide d4
  have K4 := hide (K3.out.trans (hk4.mono (by simp)))
  clear d4 hk4 D3 P3 K3 hsp hdp c0 c1
  go_wp2_with fail
  go_ret2
  exact ⟨rfl, HR4.out.later ((Kept.refl [R] w4).setCell (p := ⟨R, 1, none⟩) (by simp) _) (by simpa using hgR), D4.out.set1 _, K4.out.setCell (p := ⟨R, 1, none⟩) (by simp) _⟩
end Go.Proofs.Qxb6613781aFmt

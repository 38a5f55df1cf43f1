import Derived.Test.Qxb6613781aFmtReadAt
namespace Go.Proofs.Qxb6613781aFmt
open Go.Extern.Stop Go.Stop Go.Extern
open Go.ChangeShapes Go.WideShapes Go.ChangeAt Go.RowKit

theorem info52 : ∃ i, Tryf.prog.info? 52 = some i ∧ i.comparable = true := by
  have h : (Tryf.prog.info? 52).map (·.comparable) = some true := by kernel_rfl
  obtain ⟨i, hi, hc⟩ := Option.map_eq_some_iff.1 h
  exact ⟨i, hi, hc⟩
theorem info54 : ∃ j, Tryf.prog.info? 54 = some j ∧ j.size ≠ 0 := by
  have h : (Tryf.prog.info? 54).map (·.size) = some 1 := by kernel_rfl
  obtain ⟨i, hi, hc⟩ := Option.map_eq_some_iff.1 h
  exact ⟨i, hi, by omega⟩
/-- '==' of two errors: one pointer. -/
theorem eql_same (a : Addr) (w : World) : (binOp .eql 26 (.iface 52 (.pointer (some a))) (.iface 52 (.pointer (some a)))).run Tryf.prog w = .ok (.bool true) w := by
  obtain ⟨i, hi, hc⟩ := info52
  obtain ⟨j, hj, _⟩ := info54
  exact run_eql_iface_ptr_same w a Tryf.underlying26 Tryf.underlying52 hi hc hj
/-- '==' of two errors: two pointers. -/
theorem eql_other {a b : Addr} {ca cb : Array Value} {ta tb : TypeId} {w : World} (hne : a ≠ b) (ha : w.heap[a.block]? = some (.cells ca ta (0, 0))) (hb : w.heap[b.block]? = some (.cells cb tb (0, 0))) :
    (binOp .eql 26 (.iface 52 (.pointer (some a))) (.iface 52 (.pointer (some b)))).run Tryf.prog w = .ok (.bool false) w := by
  obtain ⟨i, hi, hc⟩ := info52
  obtain ⟨j, hj, hs⟩ := info54
  exact run_eql_iface_ptr_other w Tryf.underlying26 Tryf.underlying52 hi hc hj hs hne ha hb

theorem method_readAt (a : Addr) (w : World) : (method 177 30 (.pointer (some a)) "ReadAt").run Tryf.prog w = .ok (37, .pointer (some a)) w := by kernel_rfl

theorem frd_zero (B R : Nat) (rv : Value) (pos : Int) (pv : Value) (bd : Option Addr) (cb n c : Nat) (a : Option Addr) (i pr off : Int) (what : ByteArray) (ev : Value) (w : World) (hf : FlAt w B rv pos (.iface 30 (.pointer (some ⟨R, 0, none⟩))) pv)
    (hr : RdAt w R (.slice a n c) i pr) (hg : w.cell? ⟨0, 0, none⟩ = some ev) (hnc : n ≤ c) :
    Calls Tryf.prog 12 #[.pointer (some ⟨B, 0, none⟩), .slice bd 0 cb, .int .i64 off, .string what] w fun e w' => e = .returned .nilIface ∧ Below w.heap.size w w' := by
  have h2 := hf.cell2
  have C := hide (readAt_zero R bd cb n c a i pr off ev w hr hg hnc)
  have hm := method_readAt
  clear hf hr hg
  go_enter Tryf.func12, Tryf.ntmps12
  go_wp2_with (go_at_call 37; refine C.out.mono ?_; rintro e w' ⟨x, rfl, hb⟩)
  go_ret
  exact ⟨rfl, ‹_›⟩

theorem frd_neg (B R : Nat) (rv : Value) (pos : Int) (pv : Value) (bd : Option Addr) (m cb : Nat) (off : Int) (what : ByteArray) (ae : Addr) (w : World) (hf : FlAt w B rv pos (.iface 30 (.pointer (some ⟨R, 0, none⟩))) pv)
    (hg : w.cell? ⟨0, 0, none⟩ = some (.iface 52 (.pointer (some ae)))) (hae : ∃ ca ta, w.heap[ae.block]? = some (.cells ca ta (0, 0))) (hm0 : 0 < m) (hoff : off < 0) :
    Calls Tryf.prog 12 #[.pointer (some ⟨B, 0, none⟩), .slice bd m cb, .int .i64 off, .string what] w fun e w' => (∃ a, e = .returned (.iface 52 (.pointer (some a)))) ∧ Below w.heap.size w w' := by
  have h2 := hf.cell2
  have C := hide (readAt_neg R bd m cb off w hoff)
  have hm := method_readAt
  have h0 : 0 < w.heap.size := World.block_lt_of_cell? w _ hg
  obtain ⟨ca, ta, hba⟩ := hae
  have hlt : ae.block < w.heap.size := (Array.getElem?_eq_some_iff.1 hba).1
  have HBA := hide hba
  have hcmp : ((0 : Int) == (m : Int)) = false := by simp; omega
  clear hf hba
  go_enter Tryf.func12, Tryf.ntmps12
  go_wp2_with fail
  refine C.out.mono ?_
  rintro e w1 ⟨rfl, ⟨cb', tb', hnew⟩, hb⟩
  have hg1 : w1.cell? ⟨0, 0, none⟩ = some (.iface 52 (.pointer (some ae))) := (hb.cell (p := ⟨0, 0, none⟩) h0).trans hg
  have heq := eql_other (a := ⟨w.heap.size, 0, none⟩) (b := ae) (w := w1) (by intro h; rw [← h] at hlt; simp at hlt) hnew ((hb.block _ hlt).trans HBA.out)
  have HB := hide hb
  clear hb hnew hg HBA C
  go_wp2_with fail
  go_ret
  exact ⟨⟨_, rfl⟩, HB.out⟩

theorem frd_far (F : Interp) (B R : Nat) (rv : Value) (pos : Int) (pv : Value) (bd : Option Addr) (m cb n c : Nat) (a : Option Addr) (i pr off : Int) (what : ByteArray) (ae : Addr) (w : World) (hF : F.answers w.tape) (hf : FlAt w B rv pos (.iface 30 (.pointer (some ⟨R, 0, none⟩))) pv)
    (hr : RdAt w R (.slice a n c) i pr) (hg : w.cell? ⟨0, 0, none⟩ = some (.iface 52 (.pointer (some ae)))) (hm0 : 0 < m) (h0 : 0 ≤ off) (hoff : n ≤ off) (hmx : off ≤ 9223372036854775807) :
    Calls Tryf.prog 12 #[.pointer (some ⟨B, 0, none⟩), .slice bd m cb, .int .i64 off, .string what] w fun e w' => (∃ a, e = .returned (.iface 52 (.pointer (some a)))) ∧ Below w.heap.size w w' := by
  have h2 := hf.cell2
  have C := hide (readAt_far R bd m cb n c a i pr off _ w hr hg h0 hoff)
  have hm := method_readAt
  have hq := eql_same ae
  have h00 : 0 < w.heap.size := World.block_lt_of_cell? w _ hg
  have hcmp : ((0 : Int) == (m : Int)) = false := by simp; omega
  have HF := hide hF
  have HFL := hide hf
  clear hf hF hr
  go_enter Tryf.func12, Tryf.ntmps12
  go_wp2_with fail
  refine C.out.mono ?_
  rintro e w1 ⟨rfl, hb⟩
  have hg1 : w1.cell? ⟨0, 0, none⟩ = some (.iface 52 (.pointer (some ae))) := (hb.cell (p := ⟨0, 0, none⟩) h00).trans hg
  have C16 := hide (fun en => ends_inside F B rv pos _ pv en off what w1 (by rw [hb.tape]; exact HF.out) (HFL.out.later (Kept.of_below (S := []) hb) (by simp)))
  have HB := hide hb
  clear hb hg C HF HFL
  go_wp2_with (go_at_call 16; refine (C16.out _).mono ?_; rintro e w' ⟨x, rfl, hb2⟩)
  go_ret
  refine ⟨⟨_, rfl⟩, HB.out.trans (Below.mono ‹_› HB.out.size)⟩

theorem frd_full (B R : Nat) (rv : Value) (pos : Int) (pv : Value) (g m cb n c ga : Nat) (i pr : Int) (off : Nat) (what : ByteArray) (pl dl : List UInt8) (w : World) (hf : FlAt w B rv pos (.iface 30 (.pointer (some ⟨R, 0, none⟩))) pv)
    (hr : RdAt w R (.slice (some ⟨ga, 0, none⟩) n c) i pr) (hm : m ≤ 1048576) (hn : n ≤ 1048576) (hnc : n ≤ c) (hp : Row w g pl) (hpl : pl.length = m) (hd : Row w ga dl) (hdl : dl.length = n) (h : off < n) (hmn : m ≤ n - off) :
    Calls Tryf.prog 12 #[.pointer (some ⟨B, 0, none⟩), .slice (some ⟨g, 0, none⟩) m cb, .int .i64 off, .string what] w fun e w' => e = .returned .nilIface ∧ Row w' g (splice pl 0 (cut dl off m)) ∧ Kept [g] w w' := by
  have h2 := hf.cell2
  have C := hide (readAt_full R g m cb n c ga i pr off pl dl w hr hm hn hnc hp hpl hd hdl h hmn)
  have hmt := method_readAt
  clear hf hr hp hd hpl hdl
  go_enter Tryf.func12, Tryf.ntmps12
  go_wp2_with fail
  refine C.out.mono ?_
  rintro e w1 ⟨rfl, hR, hK⟩
  have HR := hide hR
  have HK := hide hK
  clear hR hK C
  go_wp2_with fail
  go_ret
  exact ⟨rfl, HR.out, HK.out⟩

theorem frd_short (F : Interp) (B R : Nat) (rv : Value) (pos : Int) (pv : Value) (g m cb n c ga : Nat) (i pr : Int) (off : Nat) (what : ByteArray) (pl dl : List UInt8) (ae : Addr) (w : World) (hF : F.answers w.tape) (hf : FlAt w B rv pos (.iface 30 (.pointer (some ⟨R, 0, none⟩))) pv)
    (hr : RdAt w R (.slice (some ⟨ga, 0, none⟩) n c) i pr) (hg : w.cell? ⟨0, 0, none⟩ = some (.iface 52 (.pointer (some ae)))) (hm : m ≤ 1048576) (hn : n ≤ 1048576) (hnc : n ≤ c) (hp : Row w g pl) (hpl : pl.length = m) (hd : Row w ga dl) (hdl : dl.length = n) (h : off < n) (h0g : 0 ≠ g) (hBg : B ≠ g) (hmn : n - off < m) :
    Calls Tryf.prog 12 #[.pointer (some ⟨B, 0, none⟩), .slice (some ⟨g, 0, none⟩) m cb, .int .i64 off, .string what] w fun e w' => (∃ a, e = .returned (.iface 52 (.pointer (some a)))) ∧ Row w' g (splice pl 0 (cut dl off m)) ∧ Kept [g] w w' := by
  have h2 := hf.cell2
  have C := hide (readAt_short R g m cb n c ga i pr off pl dl _ w hr hg hm hn hnc hp hpl hd hdl h h0g hmn)
  have hmt := method_readAt
  have hq := eql_same ae
  have h00 : 0 < w.heap.size := World.block_lt_of_cell? w _ hg
  have hgw : g < w.heap.size := hp.lt
  have HF := hide hF
  have HFL := hide hf
  have hcmp : (((n - off : Nat) : Int) == (m : Int)) = false := by simp; omega
  clear hf hr hp hd hpl hdl hF
  generalize hk : n - off = k at *
  have hk1 : k ≤ 1048576 := by omega
  clear hk
  go_enter Tryf.func12, Tryf.ntmps12
  go_wp2_with fail
  refine C.out.mono ?_
  rintro e w1 ⟨rfl, hR, hK⟩
  have hg1 : w1.cell? ⟨0, 0, none⟩ = some (.iface 52 (.pointer (some ae))) := (hK.cell (p := ⟨0, 0, none⟩) h00 (by simpa using h0g)).trans hg
  have C16 := hide (fun en => ends_inside F B rv pos _ pv en off what w1 (by rw [hK.tape]; exact HF.out) (HFL.out.later hK (by simpa using hBg)))
  have HR := hide hR
  have HK := hide hK
  clear hR hK C HF HFL hg
  go_wp2_with (go_at_call 16; refine (C16.out _).mono ?_; rintro e w' ⟨x, rfl, hb2⟩)
  go_ret
  have hb3 : Below w1.heap.size w1 _ := ‹_›
  exact ⟨⟨_, rfl⟩, HR.out.later (Kept.of_below (S := []) hb3) (by simp), HK.out.trans (Kept.of_below hb3)⟩
end Go.Proofs.Qxb6613781aFmt

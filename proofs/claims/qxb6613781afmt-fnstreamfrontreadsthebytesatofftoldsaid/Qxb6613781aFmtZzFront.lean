import Derived.Test.Qxb6613781aFmtLawAt
import Derived.Test.Qxb6613781aFmtStream
namespace Go.Proofs.Qxb6613781aFmt
open Go.Extern.Stop Go.Stop Go.Extern
open Go.ChangeShapes Go.WideShapes Go.ChangeAt Go.RowKit

/-- What the law's reading leaves. -/
def ZzPost (bd : Option Addr) (m n D : Nat) (pos : Int) (pl dl : List UInt8) (w : World) (e : Ending) (w' : World) : Prop :=
  ∃ ev pe, e = .returned (.tuple #[.int .i64 pe, ev]) ∧ ((D + m < n ∧ pe = pos + D + m) ∨ (n ≤ D + m ∧ pe = pos + n)) ∧ ((D + m ≤ n ∧ ev = .nilIface) ∨ (n < D + m ∧ ∃ x, ev = .iface 52 (.pointer (some x)))) ∧
    DataAt w' bd m (splice pl 0 (cut dl D m)) ∧ Kept (blocksOf bd) w w'

set_option maxHeartbeats 400000 in
theorem zz_front (F : Interp) (bd : Option Addr) (m cb n c : Nat) (a : Option Addr) (pos : Int) (D : Nat) (what : ByteArray) (pl dl : List UInt8) (ae au : Addr) (w : World) (hF : F.answers w.tape)
    (hg : w.cell? ⟨0, 0, none⟩ = some (.iface 52 (.pointer (some ae)))) (hu : w.cell? ⟨1, 0, none⟩ = some (.iface 52 (.pointer (some au)))) (hne : ae ≠ au)
    (hae : ∃ ca ta, w.heap[ae.block]? = some (.cells ca ta (0, 0))) (hau : ∃ ca ta, w.heap[au.block]? = some (.cells ca ta (0, 0)))
    (hm : m ≤ 1048576) (hn : n ≤ 1048576) (hnc : n ≤ c) (hmc : m ≤ cb) (hp : DataAt w bd m pl) (hpl : pl.length = m) (hd : DataAt w a n dl) (hdl : dl.length = n) (hp0 : 0 ≤ pos) (hpD : pos + D ≤ 4611686018427387904)
    (hbd : ∀ g, bd = some ⟨g, 0, none⟩ → 1 < g ∧ g < w.heap.size ∧ ae.block ≠ g ∧ au.block ≠ g) (had : ∀ g, a = some ⟨g, 0, none⟩ → g < w.heap.size ∧ ∀ g', bd = some ⟨g', 0, none⟩ → g ≠ g') :
    Calls Tryf.prog 7 #[.slice a n c, .int .i64 pos, .slice bd m cb, .int .i64 (pos + D), .string what] w (ZzPost bd m n D pos pl dl w) := by
  go_enter Tryf.func7, Tryf.ntmps7
  go_wp2_with (go_at_call 10; go_in)
  have hF2 : F.answers ((w.alloc (.cells #[.slice a n c, .int .i64 0, .int .i64 (-1)] 40)).alloc (.cells #[.iface 30 (.pointer (some ⟨w.heap.size, 0, none⟩)), .int .i64 pos, .nilIface, .int .i64 (-1), .bool false, .slice none 0 0] 37)).tape := hF
  obtain ⟨hr, hf, hb⟩ := two_blocks w (.cells #[.slice a n c, .int .i64 0, .int .i64 (-1)] 40) (.cells #[.iface 30 (.pointer (some ⟨w.heap.size, 0, none⟩)), .int .i64 pos, .nilIface, .int .i64 (-1), .bool false, .slice none 0 0] 37)
  generalize (w.alloc (.cells #[.slice a n c, .int .i64 0, .int .i64 (-1)] 40)).alloc (.cells #[.iface 30 (.pointer (some ⟨w.heap.size, 0, none⟩)), .int .i64 pos, .nilIface, .int .i64 (-1), .bool false, .slice none 0 0] 37) = w2 at *
  have hg1 : 1 < w.heap.size := World.block_lt_of_cell? w _ hu
  have hk : Kept [] w w2 := Kept.of_below hb
  have hsz : w.heap.size ≤ w2.heap.size := hk.size
  have hg2 := (hb.cell (p := ⟨0, 0, none⟩) (by show 0 < _; omega)).trans hg
  have hu2 := (hb.cell (p := ⟨1, 0, none⟩) hg1).trans hu
  have haeb : ae.block < w.heap.size := by obtain ⟨ca, ta, h⟩ := hae; exact (Array.getElem?_eq_some_iff.1 h).1
  have haub : au.block < w.heap.size := by obtain ⟨ca, ta, h⟩ := hau; exact (Array.getElem?_eq_some_iff.1 h).1
  have hae2 : ∃ ca ta, w2.heap[ae.block]? = some (.cells ca ta (0, 0)) := by
    obtain ⟨ca, ta, h⟩ := hae
    exact ⟨ca, ta, (hb.block _ haeb).trans h⟩
  have hau2 : ∃ ca ta, w2.heap[au.block]? = some (.cells ca ta (0, 0)) := by
    obtain ⟨ca, ta, h⟩ := hau
    exact ⟨ca, ta, (hb.block _ haub).trans h⟩
  refine (stream_front F (w.heap.size + 1) w.heap.size 65536 bd m cb n c a pos D what pl dl ae au w2 hF2 (by omega) (by omega) hf hr hg2 hu2 hne hae2 hau2 hm hn hnc hmc (hp.later hk (by simp)) hpl (hd.later hk (by simp)) hdl hp0 hpD
    (by omega) (by omega) (by omega) ⟨by omega, by omega⟩ ⟨by omega, by omega⟩
    (fun g h => by obtain ⟨x1, x2, x3, x4⟩ := hbd g h; exact ⟨x1, by omega, by omega, by omega, x3, x4⟩)
    (fun g h => by obtain ⟨x1, x2⟩ := had g h; exact ⟨by omega, by omega, x2⟩)).mono ?_
  rintro e w3 ⟨ev, rv, av, pv, pe, rfl, hfl, hpe, hev, hdat, hk3⟩
  have h1 := hfl.cell1
  have hkk : Kept (blocksOf bd) w w3 := by
    refine ⟨hk3.os.trans hk.os, hk3.tape.trans hk.tape, hk3.output.trans hk.output, Nat.le_trans hk.size hk3.size, fun k hkl hn => ?_⟩
    refine (hk3.block k (by omega) ?_).trans (hk.block k hkl (by simp))
    intro hmem
    rcases List.mem_cons.1 hmem with h | h
    · omega
    rcases List.mem_cons.1 h with h | h
    · omega
    exact hn h
  have HP := hide (And.intro hpe (And.intro hev (And.intro hdat hkk)))
  clear hpe hev hdat hk3 hkk hfl hk hb hf hr hF2 hF hg hg2 hu hu2 hae hae2 hau hau2 hp hd hbd had hpl hdl
  go_wp2_with fail
  go_ret2
  exact ⟨ev, pe, rfl, HP.out⟩

set_option maxHeartbeats 400000 in
theorem zz5_small (a b : Option Addr) (n c m cb : Nat) (pos off : Int) (what : ByteArray) (w : World) (h : n + m + what.size ≤ 1048576) :
    Calls Tryf.prog 5 #[.slice a n c, .int .i64 pos, .slice b m cb, .int .i64 off, .string what] w fun e w' => e = .returned (.bool true) ∧ w = w' := by
  go_enter Tryf.func5, Tryf.ntmps5
  go_wp2
  go_ret
  exact ⟨rfl, rfl⟩

set_option maxHeartbeats 800000 in
theorem zz5_great (a b : Option Addr) (n c m cb : Nat) (pos off : Int) (what : ByteArray) (w : World) (h : 1048576 < n + m + what.size) (hn : n ≤ 9223372036854775807) (hm : m ≤ 9223372036854775807) (hs : what.size ≤ 9223372036854775807) :
    Calls Tryf.prog 5 #[.slice a n c, .int .i64 pos, .slice b m cb, .int .i64 off, .string what] w fun e w' => e = .returned (.bool false) ∧ w = w' := by
  by_cases h1 : 1048576 < n
  · go_enter Tryf.func5, Tryf.ntmps5
    go_wp2
    go_ret
    exact ⟨rfl, rfl⟩
  by_cases h2 : 1048576 < m
  · go_enter Tryf.func5, Tryf.ntmps5
    go_wp2
    go_ret
    exact ⟨rfl, rfl⟩
  by_cases h3 : 1048576 < n + m
  · go_enter Tryf.func5, Tryf.ntmps5
    go_wp2
    go_ret
    exact ⟨rfl, rfl⟩
  by_cases h4 : 1048576 < what.size
  · go_enter Tryf.func5, Tryf.ntmps5
    go_wp2
    go_ret
    exact ⟨rfl, rfl⟩
  go_enter Tryf.func5, Tryf.ntmps5
  go_wp2
  go_ret
  exact ⟨rfl, rfl⟩

theorem front_great (a b : Option Addr) (n c m cb : Nat) (pos off : Int) (what : ByteArray) (w : World) (h : 1048576 < n + m + what.size) (hn : n ≤ 9223372036854775807) (hm : m ≤ 9223372036854775807) (hs : what.size ≤ 9223372036854775807) :
    Calls Tryf.prog 3 #[.slice a n c, .int .i64 pos, .slice b m cb, .int .i64 off, .string what] w fun e w' => e = .returned (.bool true) ∧ Below w.heap.size w w' := by
  go_enter Tryf.func3, Tryf.ntmps3
  go_wp2_with (go_at_call 5; refine (zz5_great _ _ _ _ _ _ _ _ _ _ h hn hm hs).mono ?_; rintro e w' ⟨rfl, rfl⟩)
  go_ret
  exact ⟨rfl, Below.refl _ _⟩

set_option maxHeartbeats 400000 in
theorem front_out (a b : Option Addr) (n c m cb : Nat) (pos off : Int) (what : ByteArray) (w : World) (hsum : n + m + what.size ≤ 1048576) (h : pos < 0 ∨ off < pos ∨ 4611686018427387904 < off) :
    Calls Tryf.prog 3 #[.slice a n c, .int .i64 pos, .slice b m cb, .int .i64 off, .string what] w fun e w' => e = .returned (.bool true) ∧ Below w.heap.size w w' := by
  have C5 := hide (zz5_small a b n c m cb pos off what w hsum)
  by_cases h1 : pos < 0
  · go_enter Tryf.func3, Tryf.ntmps3
    go_wp2_with (go_at_call 5; refine C5.out.mono ?_; rintro e w' ⟨rfl, rfl⟩)
    go_ret
    exact ⟨rfl, Below.refl _ _⟩
  by_cases h2 : off < pos
  · have h1' : decide (pos < 0) = false := by simp; omega
    go_enter Tryf.func3, Tryf.ntmps3
    go_wp2_with (go_at_call 5; refine C5.out.mono ?_; rintro e w' ⟨rfl, rfl⟩)
    go_ret
    exact ⟨rfl, Below.refl _ _⟩
  have h3 : 4611686018427387904 < off := by omega
  have h1' : decide (pos < 0) = false := by simp; omega
  have h2' : decide (off < pos) = false := by simp; omega
  go_enter Tryf.func3, Tryf.ntmps3
  go_wp2_with (go_at_call 5; refine C5.out.mono ?_; rintro e w' ⟨rfl, rfl⟩)
  go_ret
  exact ⟨rfl, Below.refl _ _⟩
end Go.Proofs.Qxb6613781aFmt

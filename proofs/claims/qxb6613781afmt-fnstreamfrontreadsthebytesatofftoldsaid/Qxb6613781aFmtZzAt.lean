import Derived.Test.Qxb6613781aFmtFileAt
namespace Go.Proofs.Qxb6613781aFmt
open Go.Extern.Stop Go.Stop Go.Extern
open Go.ChangeShapes Go.WideShapes Go.ChangeAt Go.RowKit

/-- The block that a slice of the call's own lies in. -/
def blocksOf : Option Addr → List Nat
  | some a => [a.block]
  | none => []

/-- All that was asked for is there. -/
def WholeAt (m n : Nat) (off : Int) : Prop := m = 0 ∨ (0 ≤ off ∧ off + m ≤ n)
/-- What p holds behind the call. -/
def resAt (pl dl : List UInt8) (m n : Nat) (off : Int) : List UInt8 := if 0 ≤ off ∧ off < n then splice pl 0 (cut dl off.toNat m) else pl

/-- What a reading at an offset leaves. -/
def AtPost (bd : Option Addr) (m n : Nat) (off : Int) (pl dl : List UInt8) (w : World) (e : Ending) (w' : World) : Prop :=
  ∃ ev, e = .returned ev ∧ ((WholeAt m n off ∧ ev = .nilIface) ∨ (¬ WholeAt m n off ∧ ∃ x, ev = .iface 52 (.pointer (some x)))) ∧ DataAt w' bd m (resAt pl dl m n off) ∧ Kept (blocksOf bd) w w'

theorem frd_any (F : Interp) (B R : Nat) (rv : Value) (pos : Int) (pv : Value) (bd : Option Addr) (m cb n c : Nat) (a : Option Addr) (i pr off : Int) (what : ByteArray) (pl dl : List UInt8) (ae : Addr) (w : World) (hF : F.answers w.tape)
    (hf : FlAt w B rv pos (.iface 30 (.pointer (some ⟨R, 0, none⟩))) pv) (hr : RdAt w R (.slice a n c) i pr) (hg : w.cell? ⟨0, 0, none⟩ = some (.iface 52 (.pointer (some ae)))) (hae : ∃ ca ta, w.heap[ae.block]? = some (.cells ca ta (0, 0)))
    (hm : m ≤ 1048576) (hn : n ≤ 1048576) (hnc : n ≤ c) (hp : DataAt w bd m pl) (hpl : pl.length = m) (hd : DataAt w a n dl) (hdl : dl.length = n) (hmx : off ≤ 9223372036854775807)
    (hbd : ∀ g, bd = some ⟨g, 0, none⟩ → 0 ≠ g ∧ B ≠ g) :
    Calls Tryf.prog 12 #[.pointer (some ⟨B, 0, none⟩), .slice bd m cb, .int .i64 off, .string what] w (AtPost bd m n off pl dl w) := by
  by_cases hm0 : m = 0
  · subst hm0
    refine (frd_zero B R rv pos pv bd cb n c a i pr off what _ w hf hr hg hnc).mono fun e w' ⟨he, hb⟩ => ?_
    exact ⟨_, he, .inl ⟨.inl rfl, rfl⟩, (fun h => absurd h (by omega)), Kept.of_below hb⟩
  by_cases h0 : off < 0
  · refine (frd_neg B R rv pos pv bd m cb off what ae w hf hg hae (by omega) h0).mono fun e w' ⟨⟨x, he⟩, hb⟩ => ?_
    refine ⟨_, he, .inr ⟨by unfold WholeAt; omega, _, rfl⟩, ?_, Kept.of_below hb⟩
    rw [resAt, if_neg (by omega)]
    exact hp.later (Kept.of_below (S := []) hb) (by simp)
  by_cases h1 : n ≤ off
  · refine (frd_far F B R rv pos pv bd m cb n c a i pr off what ae w hF hf hr hg (by omega) (by omega) h1 hmx).mono fun e w' ⟨⟨x, he⟩, hb⟩ => ?_
    refine ⟨_, he, .inr ⟨by unfold WholeAt; omega, _, rfl⟩, ?_, Kept.of_below hb⟩
    rw [resAt, if_neg (by omega)]
    exact hp.later (Kept.of_below (S := []) hb) (by simp)
  obtain ⟨o, rfl⟩ := Int.eq_ofNat_of_zero_le (show 0 ≤ off by omega)
  obtain ⟨g, rfl, hrow⟩ := hp (by omega)
  obtain ⟨ga, rfl, hda⟩ := hd (by omega)
  have hres : resAt pl dl m n (o : Int) = splice pl 0 (cut dl o m) := by rw [resAt, if_pos (by omega), Int.toNat_natCast]
  by_cases hmn : m ≤ n - o
  · refine (frd_full B R rv pos pv g m cb n c ga i pr o what pl dl w hf hr hm hn hnc hrow hpl hda hdl (by omega) hmn).mono fun e w' ⟨he, hR, hK⟩ => ?_
    exact ⟨_, he, .inl ⟨.inr (by omega), rfl⟩, (fun _ => ⟨g, rfl, by rw [hres]; exact hR⟩), hK⟩
  · refine (frd_short F B R rv pos pv g m cb n c ga i pr o what pl dl ae w hF hf hr hg hm hn hnc hrow hpl hda hdl (by omega) (hbd g rfl).1 (hbd g rfl).2 (by omega)).mono fun e w' ⟨⟨x, he⟩, hR, hK⟩ => ?_
    exact ⟨_, he, .inr ⟨by unfold WholeAt; omega, _, rfl⟩, (fun _ => ⟨g, rfl, by rw [hres]; exact hR⟩), hK⟩

set_option maxHeartbeats 400000 in
theorem stream_at (F : Interp) (B R : Nat) (pos : Int) (pv : Value) (bd : Option Addr) (m cb n c : Nat) (a : Option Addr) (i pr off : Int) (what : ByteArray) (pl dl : List UInt8) (ae : Addr) (w : World) (hF : F.answers w.tape)
    (hf : FlAt w B .nilIface pos (.iface 30 (.pointer (some ⟨R, 0, none⟩))) pv) (hr : RdAt w R (.slice a n c) i pr) (hg : w.cell? ⟨0, 0, none⟩ = some (.iface 52 (.pointer (some ae)))) (hae : ∃ ca ta, w.heap[ae.block]? = some (.cells ca ta (0, 0)))
    (hm : m ≤ 1048576) (hn : n ≤ 1048576) (hnc : n ≤ c) (hp : DataAt w bd m pl) (hpl : pl.length = m) (hd : DataAt w a n dl) (hdl : dl.length = n) (hmx : off ≤ 9223372036854775807)
    (hbd : ∀ g, bd = some ⟨g, 0, none⟩ → 0 ≠ g ∧ B ≠ g) :
    Calls Tryf.prog 11 #[.pointer (some ⟨B, 0, none⟩), .slice bd m cb, .int .i64 off, .string what] w (AtPost bd m n off pl dl w) := by
  have C := hide (frd_any F B R .nilIface pos pv bd m cb n c a i pr off what pl dl ae w hF hf hr hg hae hm hn hnc hp hpl hd hdl hmx hbd)
  have h0 := hf.cell0
  clear hF hf hr hg hae hp hd hbd hpl hdl
  go_enter Tryf.func11, Tryf.ntmps11
  go_wp2_with fail
  refine C.out.mono ?_
  rintro e w' ⟨ev, rfl, hpost⟩
  have HP := hide hpost
  clear hpost C
  go_wp2_with fail
  go_ret
  exact ⟨ev, rfl, HP.out⟩

theorem two_blocks (w : World) (o1 o2 : Obj) : ((w.alloc o1).alloc o2).heap[w.heap.size]? = some o1 ∧ ((w.alloc o1).alloc o2).heap[w.heap.size + 1]? = some o2 ∧ Below w.heap.size w ((w.alloc o1).alloc o2) := by
  have h1 : (w.alloc o1).heap.size = w.heap.size + 1 := by simp
  refine ⟨(Below.heap_alloc _ _ _ (by omega)).trans (heap_alloc_new w o1), ?_, ((Below.refl w.heap.size w).alloc (Nat.le_refl _) o1).alloc (by omega) o2⟩
  have := heap_alloc_new (w.alloc o1) o2
  rwa [h1] at this

set_option maxHeartbeats 400000 in
theorem zz_at (F : Interp) (bd : Option Addr) (m cb n c : Nat) (a : Option Addr) (pos off : Int) (what : ByteArray) (pl dl : List UInt8) (ae : Addr) (w : World) (hF : F.answers w.tape)
    (hg : w.cell? ⟨0, 0, none⟩ = some (.iface 52 (.pointer (some ae)))) (hae : ∃ ca ta, w.heap[ae.block]? = some (.cells ca ta (0, 0)))
    (hm : m ≤ 1048576) (hn : n ≤ 1048576) (hnc : n ≤ c) (hp : DataAt w bd m pl) (hpl : pl.length = m) (hd : DataAt w a n dl) (hdl : dl.length = n) (hmx : off ≤ 9223372036854775807)
    (hbd : ∀ g, bd = some ⟨g, 0, none⟩ → 0 ≠ g ∧ g < w.heap.size) (hbn : bd = none ∨ ∃ g, bd = some ⟨g, 0, none⟩) :
    Calls Tryf.prog 9 #[.slice a n c, .int .i64 pos, .slice bd m cb, .int .i64 off, .string what] w fun e w' => ∃ ev, e = .returned (.tuple #[.int .i64 pos, ev]) ∧ ((WholeAt m n off ∧ ev = .nilIface) ∨ (¬ WholeAt m n off ∧ ∃ x, ev = .iface 52 (.pointer (some x)))) ∧
      DataAt w' bd m (resAt pl dl m n off) ∧ Kept (blocksOf bd) w w' := by
  go_enter Tryf.func9, Tryf.ntmps9
  go_wp2_with (go_at_call 10; go_in)
  have hF2 : F.answers ((w.alloc (.cells #[.slice a n c, .int .i64 0, .int .i64 (-1)] 40)).alloc (.cells #[.nilIface, .int .i64 pos, .iface 30 (.pointer (some ⟨w.heap.size, 0, none⟩)), .int .i64 (-1), .bool false, .slice none 0 0] 37)).tape := hF
  obtain ⟨hr, hf, hb⟩ := two_blocks w (.cells #[.slice a n c, .int .i64 0, .int .i64 (-1)] 40) (.cells #[.nilIface, .int .i64 pos, .iface 30 (.pointer (some ⟨w.heap.size, 0, none⟩)), .int .i64 (-1), .bool false, .slice none 0 0] 37)
  generalize (w.alloc (.cells #[.slice a n c, .int .i64 0, .int .i64 (-1)] 40)).alloc (.cells #[.nilIface, .int .i64 pos, .iface 30 (.pointer (some ⟨w.heap.size, 0, none⟩)), .int .i64 (-1), .bool false, .slice none 0 0] 37) = w2 at *
  have hg0 : 0 < w.heap.size := World.block_lt_of_cell? w _ hg
  have hk : Kept [] w w2 := Kept.of_below hb
  have hg2 := (hb.cell (p := ⟨0, 0, none⟩) hg0).trans hg
  have hae2 : ∃ ca ta, w2.heap[ae.block]? = some (.cells ca ta (0, 0)) := by
    obtain ⟨ca, ta, h⟩ := hae
    exact ⟨ca, ta, (hb.block _ (Array.getElem?_eq_some_iff.1 h).1).trans h⟩
  refine (stream_at F (w.heap.size + 1) w.heap.size pos (.slice none 0 0) bd m cb n c a 0 (-1) off what pl dl ae w2 hF2 hf hr hg2 hae2 hm hn hnc (hp.later hk (by simp)) hpl (hd.later hk (by simp)) hdl hmx (fun g h => ⟨(hbd g h).1, by have := (hbd g h).2; omega⟩)).mono ?_
  rintro e w3 ⟨ev, rfl, hev, hdat, hk3⟩
  have hfl : FlAt w3 (w.heap.size + 1) _ _ _ _ := FlAt.later hf hk3 (by
    rcases hbn with rfl | ⟨g, rfl⟩
    · simp [blocksOf]
    · have := (hbd g rfl).2; simp [blocksOf]; omega)
  have h1 := hfl.cell1
  have HP := hide (And.intro hev (And.intro hdat ((hk.mono (by simp)).trans hk3)))
  clear hev hdat hk3 hfl hk hb hf hr hF2 hF hg hg2 hae hae2 hp hd hbd hbn hpl hdl
  go_wp2_with fail
  go_ret2
  exact ⟨ev, rfl, HP.out⟩
end Go.Proofs.Qxb6613781aFmt

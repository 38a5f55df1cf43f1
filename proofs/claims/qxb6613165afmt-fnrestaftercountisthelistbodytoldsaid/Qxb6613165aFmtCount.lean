import Derived.Test.Qxb6613165aFmtUv
namespace Go.Proofs.Qxb6613165aFmt
open Go.Extern.Stop Go.Stop Go.Extern
open Go.ChangeShapes Go.WideShapes Go.ChangeAt Go.RowKit

section
attribute [local go_sem] call18 call13 fguard fmt0 fmt0r fmt1 fmt1r fmt2 fmt2r fmt3 fmt3r op9_115 op9_115w op3_100 ptr50 elem50 isError50 ptr49 elem49 isError49 op29_100

set_option maxHeartbeats 400000 in
theorem count_bad (F : Interp) (D : Nat) (a : Option Addr) (n c : Nat) (l : List UInt8) (ae : Addr) (s items : ByteArray) (w : World) (hF : F.answers w.tape)
    (hd : DecAt w D (.slice a n c) .nilIface false) (hg : w.cell? ⟨0, 0, none⟩ = some (.iface 50 (.pointer (some ae)))) (hs : w.cell? ae = some (.string s))
    (hl : l.length = n) (h : 0 < n → ∃ g o, a = some ⟨g, o, none⟩ ∧ ∀ j, j < n → w.cell? ⟨g, o + j, none⟩ = some (.int .u8 (l.getD j 0).toNat)) (hb : (Lib.uvarintDec l).2 ≤ 0) :
    Calls Tryf.prog 7 #[.pointer (some ⟨D, 0, none⟩), .string items] w fun e w' => e = .returned (.int .i64 0) ∧ ∃ ev, DecAt w' D (.slice none 0 0) ev false ∧ Below D w w' := by
  have C11 := hide (uv_bad F D a n c l ae s w hF hd hg hs hl h hb)
  clear hF hd hg hs h hb
  go_enter Tryf.func7, Tryf.ntmps7
  go_wp2_with fail
  refine C11.out.mono ?_
  rintro e w1 ⟨rfl, ev, hd1, hb1⟩
  have h0 := hd1.cell0
  have D1 := hide hd1
  clear hd1 C11
  go_wp2_with fail
  go_ret
  exact ⟨rfl, _, D1.out, hb1⟩

set_option maxHeartbeats 400000 in
theorem count_fits (D : Nat) (g o n c : Nat) (l : List UInt8) (items : ByteArray) (w : World) (hn : n ≤ 1048576) (hnc : n ≤ c) (hc : c ≤ 1048576)
    (hd : DecAt w D (.slice (some ⟨g, o, none⟩) n c) .nilIface false)
    (hl : l.length = n) (hcell : ∀ j, j < n → w.cell? ⟨g, o + j, none⟩ = some (.int .u8 (l.getD j 0).toNat)) (k : Nat) (hk : (Lib.uvarintDec l).2 = k) (hk0 : 0 < k) (hkn : k ≤ n) (hv : (Lib.uvarintDec l).1 ≤ n - k) :
    Calls Tryf.prog 7 #[.pointer (some ⟨D, 0, none⟩), .string items] w fun e w' => e = .returned (.int .i64 (Lib.uvarintDec l).1) ∧ ∃ a' lo, (k < n → a' = some ⟨g, o + k, none⟩) ∧ DecAt w' D (.slice a' (n - k) (c - k)) .nilIface lo ∧ Below D w w' := by
  have C11 := hide (uv_ok D g o n c l w hn hnc hc hd hl hcell k hk hk0 hkn)
  clear hd hcell hk
  generalize (Lib.uvarintDec l).1 = v at *
  go_enter Tryf.func7, Tryf.ntmps7
  go_wp2_with fail
  refine C11.out.mono ?_
  rintro e w1 ⟨rfl, a', lo, ha', hd1, hb1⟩
  have HA := hide ha'
  have h0 := hd1.cell0
  have D1 := hide hd1
  clear hd1 C11 ha'
  have e1 : ((n - k : Nat) : Int) = (n : Int) - (k : Int) := by omega
  have e2 : ¬ ((n : Int) - (k : Int) < (v : Int)) := by omega
  have e3 : (0 : Int) ≤ (n : Int) - (k : Int) := by omega
  go_wp2_with fail
  go_ret
  exact ⟨rfl, _, _, HA.out, D1.out, hb1⟩

set_option maxHeartbeats 800000 in
theorem count_over (F : Interp) (D : Nat) (g o n c : Nat) (l : List UInt8) (ae : Addr) (s items : ByteArray) (w : World) (hF : F.answers w.tape) (hn : n ≤ 1048576) (hnc : n ≤ c) (hc : c ≤ 1048576)
    (hd : DecAt w D (.slice (some ⟨g, o, none⟩) n c) .nilIface false) (hg : w.cell? ⟨0, 0, none⟩ = some (.iface 50 (.pointer (some ae)))) (hs : w.cell? ae = some (.string s)) (hD0 : 0 < D) (hDa : ae.block < D)
    (hl : l.length = n) (hcell : ∀ j, j < n → w.cell? ⟨g, o + j, none⟩ = some (.int .u8 (l.getD j 0).toNat)) (k : Nat) (hk : (Lib.uvarintDec l).2 = k) (hk0 : 0 < k) (hkn : k ≤ n) (hv : n - k < (Lib.uvarintDec l).1) :
    Calls Tryf.prog 7 #[.pointer (some ⟨D, 0, none⟩), .string items] w fun e w' => e = .returned (.int .i64 0) ∧ ∃ ev lo, DecAt w' D (.slice none 0 0) ev lo ∧ Below D w w' := by
  have C11 := hide (uv_ok D g o n c l w hn hnc hc hd hl hcell k hk hk0 hkn)
  have hv2 := Lib.uvarintDec_lt l
  clear hd hcell hk
  generalize (Lib.uvarintDec l).1 = v at *
  go_enter Tryf.func7, Tryf.ntmps7
  go_wp2_with fail
  refine C11.out.mono ?_
  rintro e w1 ⟨rfl, a', lo, ha', hd1, hb1⟩
  have h0 := hd1.cell0
  have hlt := hd1.lt
  have hF1 : F.answers w1.tape := by rw [hb1.tape]; exact hF
  have hF' := answers_open hF1
  have hg1 := (hb1.cell (p := ⟨0, 0, none⟩) hD0).trans hg
  have hs1 := (hb1.cell (p := ae) hDa).trans hs
  have C12 := hide (fun (o : Obj) what => fail_first F D _ _ what ae s (w1.alloc o).drew hF1 (hd1.alloc o).drew ((World.cell?_alloc_lt _ _ _ (show 0 < w1.heap.size by omega)).trans hg1) ((World.cell?_alloc_lt _ _ _ (by omega)).trans hs1))
  have HB1 := hide hb1
  clear hd1 C11 ha' hF hF1 hg hs hg1 hs1 hb1
  have e1 : ((n - k : Nat) : Int) = (n : Int) - (k : Int) := by omega
  have e2 : ((n : Int) - (k : Int) < (v : Int)) := by omega
  have e3 : (0 : Int) ≤ (n : Int) - (k : Int) := by omega
  go_wp2_with fail
  refine (C12.out _ _).mono ?_
  rintro e w2 ⟨rfl, ev, hd2, hb2⟩
  have D2 := hide hd2
  have HB2 := hide ((((Below.refl D w1).alloc (Nat.le_of_lt hlt) _).drew).trans hb2)
  clear hd2 hb2 C12 hF'
  go_wp2_with fail
  go_ret
  exact ⟨rfl, _, _, D2.out, HB1.out.trans HB2.out⟩
end
end Go.Proofs.Qxb6613165aFmt

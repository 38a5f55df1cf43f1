import Derived.Test.Qxb6613781aFmtLeast
import Derived.Test.Qxb6613781aFmtZzAt
import Derived.Deep.LoopGhost
namespace Go.Proofs.Qxb6613781aFmt
open Go.Extern.Stop Go.Stop Go.Extern
open Go.ChangeShapes Go.WideShapes Go.ChangeAt Go.RowKit

section
attribute [local go_sem] call17 fguard fmt0 fmt0r fmt1 fmt1r fmt2 fmt2r fmt3 fmt3r op9_115w op2_100w ptr52 elem52 isError52
set_option maxHeartbeats 800000 in
theorem errorf_before (F : Interp) (V : Nat) (s0 s2 : ByteArray) (x1 x3 : Int) (w : World) (hF : F.answers w.tape)
    (h0 : w.cell? ⟨V, 0, none⟩ = some (.iface 9 (.string s0))) (h1 : w.cell? ⟨V, 1, none⟩ = some (.iface 2 (.int .i64 x1))) (h2 : w.cell? ⟨V, 2, none⟩ = some (.iface 9 (.string s2))) (h3 : w.cell? ⟨V, 3, none⟩ = some (.iface 2 (.int .i64 x3))) :
    Calls Tryf.prog 13 #[.string { data := #[37, 115, 32, 101, 110, 100, 115, 32, 97, 116, 32, 98, 121, 116, 101, 32, 37, 100, 44, 32, 98, 101, 102, 111, 114, 101, 32, 37, 115, 32, 97, 116, 32, 98, 121, 116, 101, 32, 37, 100] }, .slice (some ⟨V, 0, none⟩) 4 4] w fun e w' => ∃ a, e = .returned (.iface 52 (.pointer (some a))) ∧ Below w.heap.size w w' := by
  have hF' := answers_open hF
  go_enter Tryf.func13, Tryf.ntmps13
  go_wp2
  go_ret
  exact ⟨_, rfl, (((Below.refl w.heap.size w).alloc (Nat.le_refl _) _)).drew⟩
end

theorem holder_file (B : Nat) (w : World) (h4 : w.cell? ⟨B, 4, none⟩ = some (.bool false)) :
    Calls Tryf.prog 14 #[.pointer (some ⟨B, 0, none⟩)] w fun e w' => e = .returned (.string { data := #[116, 104, 101, 32, 102, 105, 108, 101] }) ∧ w = w' := by
  go_enter Tryf.func14, Tryf.ntmps14
  go_wp2
  go_ret
  exact ⟨rfl, rfl⟩

theorem Kept.trans_new {S T : List Nat} {a b c : World} (h : Kept S a b) (k : Kept T b c) (hT : ∀ x ∈ T, x ∈ S ∨ a.heap.size ≤ x) : Kept S a c :=
  ⟨k.os.trans h.os, k.tape.trans h.tape, k.output.trans h.output, Nat.le_trans h.size k.size, fun i hi hS => (k.block i (Nat.lt_of_lt_of_le hi h.size) fun ht => by
    rcases hT i ht with h1 | h1
    · exact hS h1
    · omega).trans (h.block i hi hS)⟩
theorem cut_none {l : List UInt8} {D m : Nat} (h : l.length ≤ D) : cut l D m = [] := by
  unfold cut; rw [List.drop_eq_nil_of_le h]; simp
theorem splice_none (l : List UInt8) : splice l 0 ([] : List UInt8) = l := by simp [splice]
theorem eql_nil_left (a : Addr) (w : World) : (binOp .eql 26 .nilIface (.iface 52 (.pointer (some a)))).run Tryf.prog w = .ok (.bool false) w :=
  run_eql_iface_nil_left w 52 _ Tryf.underlying26

/-- The room for the bytes that are passed over: not made yet, or a row of N bytes of the call's own. -/
def PassAt (w wr : World) (N : Nat) (pv : Value) : Prop := pv = .slice none 0 0 ∨ ∃ P cur, pv = .slice (some ⟨P, 0, none⟩) N N ∧ w.heap.size ≤ P ∧ Row wr P cur ∧ cur.length = N

/-- The loop's head: k bytes are still to be passed over. -/
def Passing (w : World) (B R N n c : Nat) (a : Option Addr) (pos : Int) (D k : Nat) (wr : World) : Prop :=
  ∃ j pr pv, j + k = D ∧ j ≤ n ∧ FlAt wr B (.iface 30 (.pointer (some ⟨R, 0, none⟩))) (pos + (j : Nat)) .nilIface pv ∧ RdAt wr R (.slice a n c) (j : Nat) pr ∧ PassAt w wr N pv ∧ Kept [B, R] w wr

/-- The same, the room made. -/
def Roomy (w : World) (B R N n c : Nat) (a : Option Addr) (pos : Int) (j : Nat) (wr : World) : Prop :=
  ∃ pr P cur, FlAt wr B (.iface 30 (.pointer (some ⟨R, 0, none⟩))) (pos + (j : Nat)) .nilIface (.slice (some ⟨P, 0, none⟩) N N) ∧ w.heap.size ≤ P ∧ Row wr P cur ∧ cur.length = N ∧ RdAt wr R (.slice a n c) (j : Nat) pr ∧ Kept [B, R] w wr

/-- What stream leaves, front to back. -/
def FrontPost (B R : Nat) (bd : Option Addr) (m n D : Nat) (pos : Int) (pl dl : List UInt8) (w : World) (e : Ending) (w' : World) : Prop :=
  ∃ ev rv av pv pe, e = .returned ev ∧ FlAt w' B rv pe av pv ∧ ((D + m < n ∧ pe = pos + D + m) ∨ (n ≤ D + m ∧ pe = pos + n)) ∧ ((D + m ≤ n ∧ ev = .nilIface) ∨ (n < D + m ∧ ∃ x, ev = .iface 52 (.pointer (some x)))) ∧
    DataAt w' bd m (splice pl 0 (cut dl D m)) ∧ Kept (B :: R :: blocksOf bd) w w'

set_option maxRecDepth 100000 in
set_option maxHeartbeats 4000000 in
theorem stream_front (F : Interp) (B R N : Nat) (bd : Option Addr) (m cb n c : Nat) (a : Option Addr) (pos : Int) (D : Nat) (what : ByteArray) (pl dl : List UInt8) (ae au : Addr) (w : World) (hF : F.answers w.tape)
    (hN1 : N ≤ 65536) (hN2 : 65536 ≤ N)
    (hf : FlAt w B (.iface 30 (.pointer (some ⟨R, 0, none⟩))) pos .nilIface (.slice none 0 0)) (hr : RdAt w R (.slice a n c) 0 (-1))
    (hg : w.cell? ⟨0, 0, none⟩ = some (.iface 52 (.pointer (some ae)))) (hu : w.cell? ⟨1, 0, none⟩ = some (.iface 52 (.pointer (some au)))) (hne : ae ≠ au)
    (hae : ∃ ca ta, w.heap[ae.block]? = some (.cells ca ta (0, 0))) (hau : ∃ ca ta, w.heap[au.block]? = some (.cells ca ta (0, 0)))
    (hm : m ≤ 1048576) (hn : n ≤ 1048576) (hnc : n ≤ c) (hmc : m ≤ cb) (hp : DataAt w bd m pl) (hpl : pl.length = m) (hd : DataAt w a n dl) (hdl : dl.length = n)
    (hp0 : 0 ≤ pos) (hpD : pos + D ≤ 4611686018427387904)
    (hBR : B ≠ R) (hB1 : 1 < B) (hR1 : 1 < R) (haB : ae.block ≠ B ∧ ae.block ≠ R) (hauB : au.block ≠ B ∧ au.block ≠ R)
    (hbd : ∀ g, bd = some ⟨g, 0, none⟩ → 1 < g ∧ g ≠ B ∧ g ≠ R ∧ g < w.heap.size ∧ ae.block ≠ g ∧ au.block ≠ g) (had : ∀ g, a = some ⟨g, 0, none⟩ → g ≠ B ∧ g ≠ R ∧ ∀ g', bd = some ⟨g', 0, none⟩ → g ≠ g') :
    Calls Tryf.prog 11 #[.pointer (some ⟨B, 0, none⟩), .slice bd m cb, .int .i64 (pos + D), .string what] w (FrontPost B R bd m n D pos pl dl w) := by
  have h0 := hf.cell0
  have hBw : B < w.heap.size := hf.lt
  have hRw : R < w.heap.size := hr.lt
  have hq := fun (w : World) (a : Option Addr) (n c n' c' : Nat) => Lib.run_eql_slice_nil (P := Tryf.prog) w 22 5 a n c n' c' Tryf.underlying22
  have hst : Passing w B R N n c a pos D D w := ⟨0, -1, .slice none 0 0, by omega, Nat.zero_le _, by simpa using hf, hr, .inl rfl, Kept.refl _ _⟩
  have HP := hide hp
  have HD := hide hd
  have HBD := hide hbd
  have HAD := hide had
  have HPL := hide hpl
  have HDL := hide hdl
  have HF := hide hF
  have HG := hide hg
  have HU := hide hu
  have HAE := hide hae
  have HAU := hide hau
  have h1w : 1 < w.heap.size := World.block_lt_of_cell? w _ hu
  obtain ⟨i0, hi, hz0, hz1, hz2⟩ := info_parts Tryf.info5
  clear hf hr hp hd hbd had hpl hdl hF hg hu hae hau
  go_enter Tryf.func11, Tryf.ntmps11
  go_wp2_with fail
  clear h0
  go_loopg [] D (fun k wr => Passing w B R N n c a pos D k wr)
  case atStart => exact hst
  case round =>
    clear hst
    obtain ⟨j, pr, pv, hjk, hjn, hfl, hrd, hpass, hk⟩ := hrel
    have hfl1 := hfl.cell1
    have HJK := hide hjk
    have hjD0 : j ≤ D := by omega
    have hgD : gk ≤ D := by omega
    by_cases hgk : 0 < gk
    · have hjD : j < D := by omega
      clear hjk
      have hlt1 : pos + (j : Int) < pos + (D : Int) := by omega
      obtain ⟨pa, pn, pc, rfl⟩ : ∃ pa pn pc, pv = .slice pa pn pc := by
        rcases hpass with rfl | ⟨P, cur, rfl, _⟩
        · exact ⟨_, _, _, rfl⟩
        · exact ⟨_, _, _, rfl⟩
      have HPASS := hide hpass
      clear hpass
      have hfl5 := hfl.cell5
      have hfr := hfl.free
      have hfll := hfl.lt
      have HFL := hide hfl
      have HRD := hide hrd
      have HK := hide hk
      clear hfl hrd hk
      go_upto_if 33 with fail
      go_cut [] from 23 to 100 (fun wc => Roomy w B R N n c a pos j wc)
      case first =>
        rcases HPASS.out with hpv | ⟨P, cur, hpv, hPw, hPr, hPl⟩
        · simp only [Value.slice.injEq] at hpv
          obtain ⟨rfl, rfl, rfl⟩ := hpv
          go_wp2_with (at_make; refine wpList_make_full _ rfl (.const (.int .i64 65536)) (.const (.int .i64 65536)) 22 rfl w.heap.size 5 i0 (.int .u8 0) 1 Tryf.underlying22 hi hz0 hz1 _ _ _ _ N rfl rfl (by omega) (by omega) (by rw [hz2]; omega) (by unfold maxLen; omega) HK.out.size ?_)
          intro w1 hown hgrow
          have hb1 : Below wr.heap.size wr w1 := (Below.refl _ _).grown hgrow (Nat.le_refl _) (by simp)
          have HR1 := hide (row_of_made hown)
          have hk1 : Kept [B, R] wr w1 := Kept.of_below hb1
          have hf1 := HFL.out.later (Kept.of_below (S := []) hb1) (by simp)
          have hr1 := HRD.out.later (Kept.of_below (S := []) hb1) (by simp)
          have hfr1 := hf1.free
          have hc51 := hf1.cell5
          have hlt2 := hf1.lt
          have hws := HK.out.size
          have HF1 := hide hf1
          have HR2 := hide hr1
          have HK1 := hide (HK.out.trans hk1)
          clear hown hgrow hb1 hk1 hf1 hr1 hfl1 hfl5 hfr HFL HRD HPASS HK
          go_wp2_with fail
          go_meet
          case rel => exact ⟨_, wr.heap.size, List.replicate N 0, HF1.out.set5 _, hws, HR1.out.later ((Kept.refl [B] w1).setCell (p := ⟨B, 5, none⟩) (by simp) _) (by simp; omega), by simp, HR2.out.later ((Kept.refl [B] w1).setCell (p := ⟨B, 5, none⟩) (by simp) _) (by simpa using fun e => hBR e.symm), HK1.out.setCell (p := ⟨B, 5, none⟩) (by simp) _⟩
        · simp only [Value.slice.injEq] at hpv
          obtain ⟨rfl, rfl, rfl⟩ := hpv
          have HPR := hide hPr
          have HPL2 := hide hPl
          clear hPr hPl
          go_wp2_with fail
          go_meet
          case rel => exact ⟨_, P, cur, HFL.out, hPw, HPR.out, HPL2.out, HRD.out, HK.out⟩
      case rest =>
        obtain ⟨pr2, P, cur, hfc, hPw, hPr, hPl, hrc, hkc⟩ := hcut
        have c0 := hfc.cell0
        have c1 := hfc.cell1
        have c5 := hfc.cell5
        have c4 := hfc.cell4
        have hfrc := hfc.free
        have hlc := hfc.lt
        have hnr := nil_read
        have hmr := method_read
        have HFC := hide hfc
        have HRC := hide hrc
        have HKC := hide hkc
        have HPR := hide hPr
        have HPLN := hide hPl
        clear hfc hrc hkc hPr hPl HFL HRD HPASS HK hfl1 hfl5 hfr hfll
        have hsub : (pos + (D : Int)) - (pos + (j : Int)) = (D : Int) - (j : Int) := by omega
        obtain ⟨q, hqd⟩ : ∃ q, q = D - j := ⟨_, rfl⟩
        have hwr : IntKind.i64.wrap ((D : Int) - (j : Int)) = (q : Int) := by rw [IntKind.wrap_i64]; omega
        have hwr2 : IntKind.i64.wrap ((pos + (D : Int)) - (pos + (j : Int))) = (q : Int) := by rw [hsub]; exact hwr
        have hq0 : 0 < q := by omega
        have HQD := hide hqd
        clear hsub hqd
        obtain ⟨mm, hmm, hmm1, hmm2, hmm0⟩ : ∃ mm, ((q < N ∧ mm = q) ∨ (N ≤ q ∧ mm = N)) ∧ mm ≤ N ∧ mm ≤ q ∧ 0 < mm := by
          by_cases h : q < N
          · exact ⟨q, .inl ⟨h, rfl⟩, by omega, by omega, by omega⟩
          · exact ⟨N, .inr ⟨by omega, rfl⟩, by omega, by omega, by omega⟩
        by_cases hjn2 : j < n
        · obtain ⟨ga, rfl, hda⟩ := HD.out (by omega)
          have hga := HAD.out ga rfl
          have hdc := hda.later HKC.out (by simp; omega)
          have hgaw := hda.lt
          have hPne : P ≠ R ∧ P ≠ B ∧ P ≠ ga := ⟨by omega, by omega, by omega⟩
          have C := hide (read_some R P 0 mm N n c ga j pr2 cur dl wc.drew HRC.out HPR.out (by rw [HPLN.out]; omega) hdc HDL.out hn hnc hjn2 hPne.1 hga.2.1)
          have hnil := eql_nil_left ae
          have hLm : (cut dl j mm).length ≤ mm := by rw [cut_length]; exact Nat.min_le_left _ _
          have hLn : (cut dl j mm).length ≤ n - j := by rw [cut_length, HDL.out]; exact Nat.min_le_right _ _
          have hLp : 0 < (cut dl j mm).length := by rw [cut_length, HDL.out]; exact Nat.lt_min.2 ⟨by omega, by omega⟩
          have hqg : q ≤ gk := by have := HJK.out; have := HQD.out; omega
          rcases hmm with ⟨hqN, rfl⟩ | ⟨hqN, rfl⟩
          · have hqN1 : (mm : Int) < (N : Int) := by omega
            have hqN2 : (mm : Int) ≤ (N : Int) := by omega
            have hqN3 : (0 : Int) ≤ (mm : Int) := by omega
            go_wp2_with fail
            go_region_held3 (fun w' => w'.cell? ⟨B, 0, none⟩ = some (.iface 30 (.pointer (some ⟨R, 0, none⟩))) ∧ w'.cell? ⟨B, 1, none⟩ = some (.int .i64 (pos + (j : Int))) ∧ w'.cell? ⟨B, 5, none⟩ = some (.slice (some ⟨P, 0, none⟩) N N)) (go_keep)
              ((go_at_call 36; refine C.out.mono ?_; rintro e w1 ⟨rfl, hR1, hD1, hK1⟩; have hf1 := HFC.out.later (w' := w1) ((Kept.refl [P, R] wc).drew.trans hK1) (by simp; omega); have f0 := hf1.cell0; have f1 := hf1.cell1; have f5 := hf1.cell5))
            have hkw : Kept [B, R] w w1 := HKC.out.trans_new ((Kept.refl [P, R] wc).drew.trans hK1) (by simp; omega)
            have hgw := (hkw.cell (p := ⟨0, 0, none⟩) (by show 0 < w.heap.size; omega) (by simp; omega)).trans HG.out
            have hfr1 := hf1.free
            have hl1 := hf1.lt
            have HF1 := hide hf1
            have HR1 := hide hR1
            have HD1 := hide hD1
            have HKW := hide hkw
            clear hf1 hR1 hD1 hkw hK1 C HFC HPR HKC HRC hdc hda c0 c1 c4 c5 hfrc hwr hwr2
            generalize hLL : (cut dl j mm).length = L at *
            have HLL := hide hLL
            clear hLL
            have hL0 : ((L : Int) == 0) = false := by simp; omega
            go_wp2_with fail
            go_roundg (gk - L)
            case measure => omega
            case rel =>
              have e1 : pos + (j : Int) + (L : Int) = pos + ((j + L : Nat) : Int) := by omega
              have e2 : (j : Int) + (L : Int) = ((j + L : Nat) : Int) := by omega
              refine ⟨j + L, -1, .slice (some ⟨P, 0, none⟩) N N, by have := HJK.out; omega, by omega, ?_, ?_, .inr ⟨P, splice cur 0 (cut dl j mm), rfl, hPw, HR1.out.later ((Kept.refl [B] w1).setCell (p := ⟨B, 1, none⟩) (by simp) _) (by simp; omega), ?_⟩, HKW.out.setCell (p := ⟨B, 1, none⟩) (by simp) _⟩
              · rw [← e1]; exact HF1.out.set1 _
              · rw [← e2]; exact HD1.out.later ((Kept.refl [B] w1).setCell (p := ⟨B, 1, none⟩) (by simp) _) (by simp; omega)
              · rw [length_splice _ _ _ (by rw [HLL.out, HPLN.out]; omega), HPLN.out]
          · have hqN2 : (mm : Int) ≤ (mm : Int) := by omega
            have hqN3 : (0 : Int) ≤ (mm : Int) := by omega
            go_wp2_with fail
            have hqN1 : ¬ (q : Int) < (mm : Int) := by omega
            have hqN4 : ¬ q < mm := by omega
            go_region_held3 (fun w' => w'.cell? ⟨B, 0, none⟩ = some (.iface 30 (.pointer (some ⟨R, 0, none⟩))) ∧ w'.cell? ⟨B, 1, none⟩ = some (.int .i64 (pos + (j : Int))) ∧ w'.cell? ⟨B, 5, none⟩ = some (.slice (some ⟨P, 0, none⟩) mm mm)) (go_keep)
              ((go_at_call 36; refine C.out.mono ?_; rintro e w1 ⟨rfl, hR1, hD1, hK1⟩; have hf1 := HFC.out.later (w' := w1) ((Kept.refl [P, R] wc).drew.trans hK1) (by simp; omega); have f0 := hf1.cell0; have f1 := hf1.cell1; have f5 := hf1.cell5))
            have hkw : Kept [B, R] w w1 := HKC.out.trans_new ((Kept.refl [P, R] wc).drew.trans hK1) (by simp; omega)
            have hgw := (hkw.cell (p := ⟨0, 0, none⟩) (by show 0 < w.heap.size; omega) (by simp; omega)).trans HG.out
            have hfr1 := hf1.free
            have hl1 := hf1.lt
            have HF1 := hide hf1
            have HR1 := hide hR1
            have HD1 := hide hD1
            have HKW := hide hkw
            clear hf1 hR1 hD1 hkw hK1 C HFC HPR HKC HRC hdc hda c0 c1 c4 c5 hfrc hwr hwr2
            generalize hLL : (cut dl j mm).length = L at *
            have HLL := hide hLL
            clear hLL
            have hL0 : ((L : Int) == 0) = false := by simp; omega
            go_wp2_with fail
            go_roundg (gk - L)
            case measure => omega
            case rel =>
              have e1 : pos + (j : Int) + (L : Int) = pos + ((j + L : Nat) : Int) := by omega
              have e2 : (j : Int) + (L : Int) = ((j + L : Nat) : Int) := by omega
              refine ⟨j + L, -1, .slice (some ⟨P, 0, none⟩) mm mm, by have := HJK.out; omega, by omega, ?_, ?_, .inr ⟨P, splice cur 0 (cut dl j mm), rfl, hPw, HR1.out.later ((Kept.refl [B] w1).setCell (p := ⟨B, 1, none⟩) (by simp) _) (by simp; omega), ?_⟩, HKW.out.setCell (p := ⟨B, 1, none⟩) (by simp) _⟩
              · rw [← e1]; exact HF1.out.set1 _
              · rw [← e2]; exact HD1.out.later ((Kept.refl [B] w1).setCell (p := ⟨B, 1, none⟩) (by simp) _) (by simp; omega)
              · rw [length_splice _ _ _ (by rw [HLL.out, HPLN.out]; omega), HPLN.out]
        · have hjn3 : (n : Int) ≤ (j : Int) := by omega
          have hgw := (HKC.out.cell (p := ⟨0, 0, none⟩) (by show 0 < w.heap.size; omega) (by simp; omega)).trans HG.out
          have C := hide (fun bd' m' c' => read_eof R bd' m' c' n c a j pr2 _ wc.drew HRC.out hgw hjn3)
          have heq := eql_same ae
          rcases hmm with ⟨hqN, rfl⟩ | ⟨hqN, rfl⟩
          · have hqN1 : (mm : Int) < (N : Int) := by omega
            have hqN2 : (mm : Int) ≤ (N : Int) := by omega
            have hqN3 : (0 : Int) ≤ (mm : Int) := by omega
            go_wp2_with fail
            go_region_held3 (fun w' => w'.cell? ⟨B, 0, none⟩ = some (.iface 30 (.pointer (some ⟨R, 0, none⟩))) ∧ w'.cell? ⟨B, 1, none⟩ = some (.int .i64 (pos + (j : Int))) ∧ w'.cell? ⟨B, 5, none⟩ = some (.slice (some ⟨P, 0, none⟩) N N)) (go_keep)
              ((go_at_call 36; refine (C.out _ _ _).mono ?_; rintro e w1 ⟨rfl, hb1⟩; have hf1 := HFC.out.later (w' := w1) (Kept.of_below (S := []) ((Below.refl wc.heap.size wc).drew.trans hb1)) (by simp); have f0 := hf1.cell0; have f1 := hf1.cell1; have f5 := hf1.cell5))
            have hb1' : Below wc.heap.size wc w1 := (Below.refl wc.heap.size wc).drew.trans hb1
            have hkw : Kept [B, R] w w1 := HKC.out.trans (Kept.of_below hb1')
            have hgw1 := (hkw.cell (p := ⟨0, 0, none⟩) (by show 0 < w.heap.size; omega) (by simp; omega)).trans HG.out
            have hfr1 := hf1.free
            have hl1 := hf1.lt
            have HF1 := hide hf1
            have HKW := hide hkw
            clear hf1 hkw hb1 hb1' C HFC HPR HKC HRC c0 c1 c4 c5 hfrc hwr hwr2 hgw
            go_wp2_with fail
            have hf2 := HF1.out.set1 (pos + (j : Int))
            have hk2 := HKW.out.setCell (p := ⟨B, 1, none⟩) (by simp) (.int .i64 (pos + (j : Int)))
            clear HF1 HKW f0 f1 f5 hfr1 hgw1 hl1
            generalize w1.setCell ⟨B, 1, none⟩ (.int .i64 (pos + (j : Int))) = w2 at *
            have d1 := hf2.cell1
            have d4 := hf2.cell4
            have C14 := hide (holder_file B w2.drew d4)
            have hF2 : F.answers w2.tape := by rw [hk2.tape]; exact HF.out
            have HF2 := hide hf2
            have HK2 := hide hk2
            clear hf2 hk2
            have hbn : Below w2.heap.size w2 (w2.alloc (.cells #[.iface 9 (.string { data := #[116, 104, 101, 32, 102, 105, 108, 101] }), .iface 2 (.int .i64 (pos + (j : Int))), .iface 9 (.string what), .iface 2 (.int .i64 (pos + (D : Int)))] 20)).drew := ((Below.refl w2.heap.size w2).alloc (Nat.le_refl _) _).drew
            have C13 := hide (errorf_before F w2.heap.size { data := #[116, 104, 101, 32, 102, 105, 108, 101] } what (pos + (j : Int)) (pos + (D : Int)) (w2.alloc (.cells #[.iface 9 (.string { data := #[116, 104, 101, 32, 102, 105, 108, 101] }), .iface 2 (.int .i64 (pos + (j : Int))), .iface 9 (.string what), .iface 2 (.int .i64 (pos + (D : Int)))] 20)).drew hF2 (by simp) (by simp) (by simp) (by simp))
            have KEEP : ∀ w3, Below (w2.alloc (.cells #[.iface 9 (.string { data := #[116, 104, 101, 32, 102, 105, 108, 101] }), .iface 2 (.int .i64 (pos + (j : Int))), .iface 9 (.string what), .iface 2 (.int .i64 (pos + (D : Int)))] 20)).drew.heap.size (w2.alloc (.cells #[.iface 9 (.string { data := #[116, 104, 101, 32, 102, 105, 108, 101] }), .iface 2 (.int .i64 (pos + (j : Int))), .iface 9 (.string what), .iface 2 (.int .i64 (pos + (D : Int)))] 20)).drew w3 → Hid (Below w2.heap.size w2 w3) := fun w3 h => hbn.trans (h.mono hbn.size)
            have KEEP2 : ∀ w3, Hid (Below w2.heap.size w2 w3) → w3.cell? ⟨B, 1, none⟩ = some (.int .i64 (pos + (j : Int))) ∧ w3.cell? ⟨B, 4, none⟩ = some (.bool false) := fun w3 h => ⟨(HF2.out.later (Kept.of_below (S := []) h.out) (by simp)).cell1, (HF2.out.later (Kept.of_below (S := []) h.out) (by simp)).cell4⟩
            have HKEEP := hide KEEP
            have HKEEP2 := hide KEEP2
            clear hbn KEEP KEEP2
            go_region_held3 (fun w' => w'.cell? ⟨B, 1, none⟩ = some (.int .i64 (pos + (j : Int))) ∧ w'.cell? ⟨B, 4, none⟩ = some (.bool false)) (go_keep)
              (first | (go_at_call 14; refine C14.out.mono ?_; rintro e w' ⟨rfl, rfl⟩) | (go_at_call 13; refine C13.out.mono ?_; rintro e w3 ⟨x, rfl, hb3⟩; have h3 := HKEEP.out w3 hb3; have e3 := HKEEP2.out w3 h3; have e31 := e3.1; have e34 := e3.2))
            have HB3 := HKEEP.out w3 hb3
            clear hb3 HKEEP HKEEP2 C13 C14 d1 d4
            go_wp2_with fail
            go_ret
            have hbk : Kept [] w2 w3 := Kept.of_below HB3.out
            have hkk : Kept (B :: R :: blocksOf bd) w w3 := (HK2.out.mono (by simp)).trans (Kept.of_below HB3.out)
            have hpe : pos + (j : Int) = pos + (n : Int) := by omega
            refine ⟨_, _, _, _, _, rfl, HF2.out.later hbk (by simp), .inr ⟨by omega, hpe⟩, .inr ⟨by omega, _, rfl⟩, ?_, hkk⟩
            rw [cut_none (by rw [HDL.out]; omega), splice_none]
            refine (HP.out.later (HK2.out.trans (Kept.of_below HB3.out)) ?_)
            intro g hg
            have := HBD.out g hg
            simp; omega
          · have hqN2 : (mm : Int) ≤ (mm : Int) := by omega
            have hqN3 : (0 : Int) ≤ (mm : Int) := by omega
            go_wp2_with fail
            have hqN1 : ¬ (q : Int) < (mm : Int) := by omega
            have hqN4 : ¬ q < mm := by omega
            go_region_held3 (fun w' => w'.cell? ⟨B, 0, none⟩ = some (.iface 30 (.pointer (some ⟨R, 0, none⟩))) ∧ w'.cell? ⟨B, 1, none⟩ = some (.int .i64 (pos + (j : Int))) ∧ w'.cell? ⟨B, 5, none⟩ = some (.slice (some ⟨P, 0, none⟩) mm mm)) (go_keep)
              ((go_at_call 36; refine (C.out _ _ _).mono ?_; rintro e w1 ⟨rfl, hb1⟩; have hf1 := HFC.out.later (w' := w1) (Kept.of_below (S := []) ((Below.refl wc.heap.size wc).drew.trans hb1)) (by simp); have f0 := hf1.cell0; have f1 := hf1.cell1; have f5 := hf1.cell5))
            have hb1' : Below wc.heap.size wc w1 := (Below.refl wc.heap.size wc).drew.trans hb1
            have hkw : Kept [B, R] w w1 := HKC.out.trans (Kept.of_below hb1')
            have hgw1 := (hkw.cell (p := ⟨0, 0, none⟩) (by show 0 < w.heap.size; omega) (by simp; omega)).trans HG.out
            have hfr1 := hf1.free
            have hl1 := hf1.lt
            have HF1 := hide hf1
            have HKW := hide hkw
            clear hf1 hkw hb1 hb1' C HFC HPR HKC HRC c0 c1 c4 c5 hfrc hwr hwr2 hgw
            go_wp2_with fail
            have hf2 := HF1.out.set1 (pos + (j : Int))
            have hk2 := HKW.out.setCell (p := ⟨B, 1, none⟩) (by simp) (.int .i64 (pos + (j : Int)))
            clear HF1 HKW f0 f1 f5 hfr1 hgw1 hl1
            generalize w1.setCell ⟨B, 1, none⟩ (.int .i64 (pos + (j : Int))) = w2 at *
            have d1 := hf2.cell1
            have d4 := hf2.cell4
            have C14 := hide (holder_file B w2.drew d4)
            have hF2 : F.answers w2.tape := by rw [hk2.tape]; exact HF.out
            have HF2 := hide hf2
            have HK2 := hide hk2
            clear hf2 hk2
            have hbn : Below w2.heap.size w2 (w2.alloc (.cells #[.iface 9 (.string { data := #[116, 104, 101, 32, 102, 105, 108, 101] }), .iface 2 (.int .i64 (pos + (j : Int))), .iface 9 (.string what), .iface 2 (.int .i64 (pos + (D : Int)))] 20)).drew := ((Below.refl w2.heap.size w2).alloc (Nat.le_refl _) _).drew
            have C13 := hide (errorf_before F w2.heap.size { data := #[116, 104, 101, 32, 102, 105, 108, 101] } what (pos + (j : Int)) (pos + (D : Int)) (w2.alloc (.cells #[.iface 9 (.string { data := #[116, 104, 101, 32, 102, 105, 108, 101] }), .iface 2 (.int .i64 (pos + (j : Int))), .iface 9 (.string what), .iface 2 (.int .i64 (pos + (D : Int)))] 20)).drew hF2 (by simp) (by simp) (by simp) (by simp))
            have KEEP : ∀ w3, Below (w2.alloc (.cells #[.iface 9 (.string { data := #[116, 104, 101, 32, 102, 105, 108, 101] }), .iface 2 (.int .i64 (pos + (j : Int))), .iface 9 (.string what), .iface 2 (.int .i64 (pos + (D : Int)))] 20)).drew.heap.size (w2.alloc (.cells #[.iface 9 (.string { data := #[116, 104, 101, 32, 102, 105, 108, 101] }), .iface 2 (.int .i64 (pos + (j : Int))), .iface 9 (.string what), .iface 2 (.int .i64 (pos + (D : Int)))] 20)).drew w3 → Hid (Below w2.heap.size w2 w3) := fun w3 h => hbn.trans (h.mono hbn.size)
            have KEEP2 : ∀ w3, Hid (Below w2.heap.size w2 w3) → w3.cell? ⟨B, 1, none⟩ = some (.int .i64 (pos + (j : Int))) ∧ w3.cell? ⟨B, 4, none⟩ = some (.bool false) := fun w3 h => ⟨(HF2.out.later (Kept.of_below (S := []) h.out) (by simp)).cell1, (HF2.out.later (Kept.of_below (S := []) h.out) (by simp)).cell4⟩
            have HKEEP := hide KEEP
            have HKEEP2 := hide KEEP2
            clear hbn KEEP KEEP2
            go_region_held3 (fun w' => w'.cell? ⟨B, 1, none⟩ = some (.int .i64 (pos + (j : Int))) ∧ w'.cell? ⟨B, 4, none⟩ = some (.bool false)) (go_keep)
              (first | (go_at_call 14; refine C14.out.mono ?_; rintro e w' ⟨rfl, rfl⟩) | (go_at_call 13; refine C13.out.mono ?_; rintro e w3 ⟨x, rfl, hb3⟩; have h3 := HKEEP.out w3 hb3; have e3 := HKEEP2.out w3 h3; have e31 := e3.1; have e34 := e3.2))
            have HB3 := HKEEP.out w3 hb3
            clear hb3 HKEEP HKEEP2 C13 C14 d1 d4
            go_wp2_with fail
            go_ret
            have hbk : Kept [] w2 w3 := Kept.of_below HB3.out
            have hkk : Kept (B :: R :: blocksOf bd) w w3 := (HK2.out.mono (by simp)).trans (Kept.of_below HB3.out)
            have hpe : pos + (j : Int) = pos + (n : Int) := by omega
            refine ⟨_, _, _, _, _, rfl, HF2.out.later hbk (by simp), .inr ⟨by omega, hpe⟩, .inr ⟨by omega, _, rfl⟩, ?_, hkk⟩
            rw [cut_none (by rw [HDL.out]; omega), splice_none]
            refine (HP.out.later (HK2.out.trans (Kept.of_below HB3.out)) ?_)
            intro g hg
            have := HBD.out g hg
            simp; omega
    · obtain rfl : gk = 0 := by omega
      obtain rfl : D = j := by omega
      have hlt1 : ¬ pos + (D : Int) < pos + (D : Int) := by omega
      have hp1 : DataAt wr bd m pl := HP.out.later hk (by intro g hg; have := HBD.out g hg; simp; omega)
      have hd1 : DataAt wr a n dl := HD.out.later hk (by intro g hg; have := HAD.out g hg; simp; omega)
      have hg1 := (hk.cell (p := ⟨0, 0, none⟩) (by show 0 < w.heap.size; omega) (by simp; omega)).trans HG.out
      have hu1 := (hk.cell (p := ⟨1, 0, none⟩) h1w (by simp; omega)).trans HU.out
      have hF1 : F.answers wr.tape := by rw [hk.tape]; exact HF.out
      have hae1 : ∃ ca ta, wr.heap[ae.block]? = some (.cells ca ta (0, 0)) := by
        obtain ⟨ca, ta, h⟩ := HAE.out
        exact ⟨ca, ta, (hk.block _ (Array.getElem?_eq_some_iff.1 h).1 (by simp; exact haB)).trans h⟩
      have hau1 : ∃ ca ta, wr.heap[au.block]? = some (.cells ca ta (0, 0)) := by
        obtain ⟨ca, ta, h⟩ := HAU.out
        exact ⟨ca, ta, (hk.block _ (Array.getElem?_eq_some_iff.1 h).1 (by simp; exact hauB)).trans h⟩
      have hfl0 := hfl.cell0
      have hws := hk.size
      have HK := hide hk
      have HFL := hide hfl
      have HRD := hide hrd
      have HP1 := hide hp1
      have HD1 := hide hd1
      have HF1 := hide hF1
      have HG1 := hide hg1
      have HU1 := hide hu1
      have HAE1 := hide hae1
      have HAU1 := hide hau1
      clear hk hfl hrd hp1 hd1 hF1 hg1 hu1 hae1 hau1 hjk HJK hpass HP HD HF HG HU HAE HAU hi hz0 hz1 hz2 hgk hgD hjD0
      by_cases hm0 : m = 0
      · subst hm0
        have C := hide (least_zero R bd cb wr)
        have hnE := eql_nil_left ae
        have hnU := eql_nil_left au
        have hg2 := HG1.out
        have hu2 := HU1.out
        have hfr := HFL.out.free
        have hll := HFL.out.lt
        go_wp2_with (first | (go_at_call 15; go_in) | (go_at_call 19; refine C.out.mono ?_; rintro e w' ⟨rfl, rfl⟩))
        go_ret
        refine ⟨_, _, _, _, _, rfl, HFL.out.set1 _, ?_, .inl ⟨by omega, rfl⟩, (fun h => absurd h (by omega)), (HK.out.setCell (p := ⟨B, 1, none⟩) (by simp) _).mono (by simp)⟩
        by_cases hDn : D < n
        · exact .inl ⟨by omega, by simp⟩
        · exact .inr ⟨by omega, by have : D = n := by omega
                                   subst this; simp⟩
      obtain ⟨g, rfl, hrow⟩ := HP1.out (by omega)
      have hgg := HBD.out g rfl
      have heE := eql_same ae
      have heU := eql_same au
      have hblk : blocksOf (some ⟨g, 0, none⟩) = [g] := rfl
      by_cases hDn : n ≤ D
      · have C := hide (least_eof R g m cb n c a D pr ae wr HRD.out HG1.out (by omega) (by omega))
        have hfin : splice pl 0 (cut dl D m) = pl := by rw [cut_none (by rw [HDL.out]; exact hDn), splice_none]
        have HFIN := hide hfin
        have HROW := hide hrow
        clear hrow hfin
        go_wp2_with (go_at_call 15; go_in)
        refine C.out.mono ?_
        rintro e w1 ⟨rfl, hb1⟩
        have hf1 := HFL.out.later (Kept.of_below (S := []) hb1) (by simp)
        have hk1 : Kept [B, R] w w1 := HK.out.trans (Kept.of_below hb1)
        have hg2 := (hb1.cell (p := ⟨0, 0, none⟩) (by show 0 < wr.heap.size; omega)).trans HG1.out
        have c1 := hf1.cell1
        have hfr := hf1.free
        have hll := hf1.lt
        have HROW1 := hide (HROW.out.later (Kept.of_below (S := []) hb1) (by simp))
        have C16 := hide (fun en => ends_inside F B _ _ _ _ en (pos + (D : Int)) what (w1.setCell ⟨B, 1, none⟩ (.int .i64 (pos + (D : Int)))) (show F.answers w1.tape by rw [hb1.tape]; exact HF1.out) (hf1.set1 (pos + (D : Int))))
        have HFF := hide (hf1.set1 (pos + (D : Int)))
        have HK1 := hide hk1
        clear hf1 hk1 hb1 C HROW
        go_wp2_with fail
        refine (C16.out _).mono ?_
        rintro e w2 ⟨x, rfl, hb2⟩
        have HB2 := hide hb2
        clear hb2 C16
        go_wp2_with fail
        go_ret
        have hks : Kept [B] w1 (w1.setCell ⟨B, 1, none⟩ (.int .i64 (pos + (D : Int)))) := (Kept.refl [B] w1).setCell (p := ⟨B, 1, none⟩) (by simp) _
        have hpe : pos + (D : Int) = pos + (n : Int) := by omega
        refine ⟨_, _, _, _, _, rfl, HFF.out.later (Kept.of_below (S := []) HB2.out) (by simp), .inr ⟨by omega, hpe⟩, .inr ⟨by omega, _, rfl⟩, (fun _ => ⟨g, rfl, ?_⟩), ?_⟩
        · rw [HFIN.out]
          exact (HROW1.out.later hks (by simp; omega)).later (Kept.of_below (S := []) HB2.out) (by simp)
        · exact ((HK1.out.trans (hks.mono (by simp))).trans (Kept.of_below HB2.out)).mono (by simp)
      obtain ⟨ga, rfl, hda⟩ := HD1.out (by omega)
      have hgaa := HAD.out ga rfl
      by_cases hmn : m ≤ n - D
      · have C := hide (least_full R g m cb n c ga D pr pl dl wr HRD.out hrow HPL.out hda HDL.out hn hnc (by omega) (by omega) (by omega) (by omega) hmn)
        have hnE := eql_nil_left ae
        have hnU := eql_nil_left au
        clear hrow hda
        go_wp2_with (go_at_call 15; go_in)
        refine C.out.mono ?_
        rintro e w1 ⟨rfl, hR1, hK1⟩
        have hf1 := HFL.out.later hK1 (by simp; omega)
        have hg2 := (hK1.cell (p := ⟨0, 0, none⟩) (by show 0 < wr.heap.size; omega) (by simp; omega)).trans HG1.out
        have hu2 := (hK1.cell (p := ⟨1, 0, none⟩) (by show 1 < wr.heap.size; omega) (by simp; omega)).trans HU1.out
        have c1 := hf1.cell1
        have hfr := hf1.free
        have hll := hf1.lt
        have HR1 := hide hR1
        have HFF := hide hf1
        have HK1 := hide ((HK.out.mono (by simp) : Kept [B, R, g] w wr).trans (hK1.mono (by simp)))
        clear hf1 hR1 hK1 C
        go_wp2_with fail
        go_ret
        refine ⟨_, _, _, _, _, rfl, HFF.out.set1 _, ?_, .inl ⟨by omega, rfl⟩, (fun _ => ⟨g, rfl, HR1.out.later ((Kept.refl [B] w1).setCell (p := ⟨B, 1, none⟩) (by simp) _) (by simp; omega)⟩), HK1.out.setCell (p := ⟨B, 1, none⟩) (by simp) _⟩
        by_cases hDn2 : D + m < n
        · exact .inl ⟨hDn2, rfl⟩
        · exact .inr ⟨by omega, by omega⟩
      · have hni : ((n - D : Nat) : Int) = (n : Int) - (D : Int) := by omega
        have C := hide (least_short R g m cb n c ga D pr pl dl ae au wr HRD.out hrow HPL.out hda HDL.out HG1.out HU1.out hn hnc (by omega) (by omega) (by omega) (by omega) hm hmc (by omega) hR1)
        have HNI := hide hni
        clear hrow hda hni
        go_wp2_with (go_at_call 15; go_in)
        refine C.out.mono ?_
        rintro e w1 ⟨rfl, hR1', hK1⟩
        have hf1 := HFL.out.later hK1 (by simp; omega)
        have hg2 := (hK1.cell (p := ⟨0, 0, none⟩) (by show 0 < wr.heap.size; omega) (by simp; omega)).trans HG1.out
        have hu2 := (hK1.cell (p := ⟨1, 0, none⟩) (by show 1 < wr.heap.size; omega) (by simp; omega)).trans HU1.out
        obtain ⟨ca, ta, hba⟩ := HAE1.out
        obtain ⟨cu, tu, hbu⟩ := HAU1.out
        have hks : Kept [B] w1 (w1.setCell ⟨B, 1, none⟩ (.int .i64 (pos + (n : Int)))) := (Kept.refl [B] w1).setCell (p := ⟨B, 1, none⟩) (by simp) _
        have hKs : Kept [g, R, B] wr (w1.setCell ⟨B, 1, none⟩ (.int .i64 (pos + (n : Int)))) := (hK1.mono (by simp)).trans (hks.mono (by simp))
        have hoth := eql_other (w := w1.setCell ⟨B, 1, none⟩ (.int .i64 (pos + (n : Int)))) (fun h => hne h.symm) ((hKs.block _ (Array.getElem?_eq_some_iff.1 hbu).1 (by simp; omega)).trans hbu) ((hKs.block _ (Array.getElem?_eq_some_iff.1 hba).1 (by simp; omega)).trans hba)
        have c1 := hf1.cell1
        have hfr := hf1.free
        have hll := hf1.lt
        have C16 := hide (fun en => ends_inside F B _ _ _ _ en (pos + (D : Int)) what (w1.setCell ⟨B, 1, none⟩ (.int .i64 (pos + (n : Int)))) (show F.answers w1.tape by rw [hK1.tape]; exact HF1.out) (hf1.set1 (pos + (n : Int))))
        have HFF := hide (hf1.set1 (pos + (n : Int)))
        have HR1 := hide hR1'
        have HKW := hide (((HK.out.mono (by simp) : Kept [B, R, g] w wr).trans (hK1.mono (by simp))).trans (hks.mono (by simp)))
        have hsum : pos + (D : Int) + ((n - D : Nat) : Int) = pos + (n : Int) := by rw [HNI.out]; omega
        generalize hk : n - D = k at *
        have HKK := hide hk
        clear hk hf1 hR1' hK1 C hba hbu hKs hks
        go_wp2_with fail
        refine (C16.out _).mono ?_
        rintro e w2 ⟨x, rfl, hb2⟩
        have HB2 := hide hb2
        clear hb2 C16
        go_wp2_with fail
        go_ret
        have hks : Kept [B] w1 (w1.setCell ⟨B, 1, none⟩ (.int .i64 (pos + (n : Int)))) := (Kept.refl [B] w1).setCell (p := ⟨B, 1, none⟩) (by simp) _
        refine ⟨_, _, _, _, _, rfl, HFF.out.later (Kept.of_below (S := []) HB2.out) (by simp), .inr ⟨by omega, rfl⟩, .inr ⟨by omega, _, rfl⟩, (fun _ => ⟨g, rfl, ?_⟩), ?_⟩
        · exact (HR1.out.later hks (by simp; omega)).later (Kept.of_below (S := []) HB2.out) (by simp)
        · exact (HKW.out.trans (Kept.of_below HB2.out)).mono (by simp [blocksOf])
end Go.Proofs.Qxb6613781aFmt

/-
  'Rows.FnStreamFrontReadsTheBytesAtOffToldSaid', proved: the told and tied card. After the guide's GuardTold.lean, PortSeven.lean. The walks: the texts that it imports.
-/
import Derived.Test.Qxb6613781aFmtFrame
import Derived.Test.Qxb6613781aFmtLawFront
namespace Go.Proofs.Qxb6613781aFmt.frontLaw
open Go.ChangeShapes Go.WideShapes Go.ChangeAt Go.RowKit Go.Kit
open Go.ChangeMaps (open_string shut_string)
open Go.Extern.Stop Go.Stop Go.Extern

theorem walk (F : Interp) (a0 : Option Addr) (n0 c0 : Nat) (pos : Int) (a2 : Option Addr) (n2 c2 : Nat) (off : Int) (what : ByteArray) (aE aU : Addr) (w : World) (hF : F.answers w.tape)
    (h0 : n0 ≤ 9223372036854775807 ∧ ∃ l : List UInt8, l.length = n0 ∧ ArgAt w a0 n0 l) (h2 : n2 ≤ 9223372036854775807 ∧ ∃ l : List UInt8, l.length = n2 ∧ ArgAt w a2 n2 l) (hs : what.size ≤ 9223372036854775807)
    (_hp1 : -9223372036854775808 ≤ pos) (_hp2 : pos ≤ 9223372036854775807) (_ho1 : -9223372036854775808 ≤ off) (_ho2 : off ≤ 9223372036854775807)
    (hE : w.cell? ⟨0, 0, none⟩ = some (.iface 52 (.pointer (some aE)))) (hU : w.cell? ⟨1, 0, none⟩ = some (.iface 52 (.pointer (some aU)))) (hne : aE ≠ aU)
    (hbE : ∃ ca ta, w.heap[aE.block]? = some (.cells ca ta (0, 0))) (hbU : ∃ ca ta, w.heap[aU.block]? = some (.cells ca ta (0, 0))) :
    Calls Tryf.prog 3 #[.slice a0 n0 c0, .int .i64 pos, .slice a2 n2 c2, .int .i64 off, .string what] w fun e w' => e = .returned (.bool true) ∧ Below w.heap.size w w' := by
  obtain ⟨m0, l0, e0, g0⟩ := h0
  obtain ⟨m2, l2, e2, g2⟩ := h2
  by_cases hlen : 1048576 < n0 + n2 + what.size
  · exact front_great a0 a2 n0 c0 n2 c2 pos off what w hlen m0 m2 hs
  by_cases hout : pos < 0 ∨ off < pos ∨ 4611686018427387904 < off
  · exact front_out a0 a2 n0 c0 n2 c2 pos off what w (by omega) hout
  obtain ⟨D, hD⟩ := Int.eq_ofNat_of_zero_le (show 0 ≤ off - pos by omega)
  obtain rfl : off = pos + (D : Int) := by omega
  exact front_in F a0 a2 n0 c0 n2 c2 pos D what l0 l2 aE aU w hF (by omega) e0 e2 g0 g2 (by omega) (by omega) hE hU hne hbE hbU

set_option maxRecDepth 100000 in
theorem lifted (os : Os) (started : os.Started) (H : Type) (enc : TypeId × Value → H) :
    ReturnsInTold none {} Tryf.checked os 3 .any Input.okWide ((OpenSpec.ofChange Rows.fnStreamFrontReadsTheBytesAtOffSpec).preRow enc Tryf.prog Tryf.f3 [] false Rows.fnStreamFrontReadsTheBytesAtOffRow.laid) (fun F => ((OpenSpec.ofChange Rows.fnStreamFrontReadsTheBytesAtOffSpec).at F).post enc Tryf.prog Tryf.f3 false true false false) (aloneAtReturn Tryf.prog) nothingAlways := by
  refine returnsInTold_of_row (C := Tryf.checked) (s := OpenSpec.ofChange Rows.fnStreamFrontReadsTheBytesAtOffSpec) (by kernel_rfl) own started (by kernel_rfl) Tryf.func3
    (OpenSpec.witness_stopped_at (enc := enc) (C := Tryf.checked) false (laidWorld Tryf.prog os 8) #[.slice none 0 0, .int .i64 0, .slice none 0 0, .int .i64 0, .string ⟨#[]⟩] rfl (by kernel_rfl) (by kernel_rfl) (by kernel_rfl)
      (OpenSpec.preRow_of_B rfl 8 (by kernel_rfl) (by kernel_rfl) (laid_met os _))) ?_
  intro F W base args ds gs before _ hF hval0 hW _ _ _ hL _
  have hval : ∀ (j : Nat) t v, Tryf.f3.params[j]? = some t → args[j]? = some v → Value.okWide Tryf.prog W .any base t v := hval0
  have hW' := hW
  obtain ⟨p, q, hA0, hV, rfl, hfz, hnd⟩ := hW
  have hA : DataW.TrodAll enc Tryf.prog W 0 (fun _ => true) true Tryf.f3.params.toList args.toList ds p := hA0
  rw [Tryf.params3] at hA hval
  obtain ⟨v0, vs0, d0, ds0, p0, q0, hargs, rfl, rfl, h0, r0⟩ := trodAll_cons hA
  obtain ⟨v1, vs1, d1, ds1, p1, q1, rfl, rfl, rfl, h1, r1⟩ := trodAll_cons r0
  obtain ⟨v2, vs2, d2, ds2, p2, q2, rfl, rfl, rfl, h2, r2⟩ := trodAll_cons r1
  obtain ⟨v3, vs3, d3, ds3, p3, q3, rfl, rfl, rfl, h3, r3⟩ := trodAll_cons r2
  obtain ⟨v4, vs4, d4, ds4, p4, q4, rfl, rfl, rfl, h4, r4⟩ := trodAll_cons r3
  obtain ⟨rfl, rfl, rfl⟩ := trodAll_nil r4
  obtain rfl : args = #[v0, v1, v2, v3, v4] := by cases args; simp_all
  obtain ⟨rfl, rfl⟩ := trodVars_none hV
  obtain ⟨aE, aU, hE, hU, hne, hbE, hbU⟩ := sentinels hL
  obtain ⟨a0, len0, cap0, rfl⟩ := okWide_slice Tryf.underlying22 (hval 0 22 v0 rfl rfl)
  obtain ⟨a2, len2, cap2, rfl⟩ := okWide_slice Tryf.underlying22 (hval 2 22 v2 rfl rfl)
  have k0 := h0
  have k2 := h2
  have lt0 : ∀ x ∈ p0, x.block < W.heap.size := by obtain ⟨m, hm⟩ := k0; exact DataW.trod_lt m _ _ _ hm
  have lt2 : ∀ x ∈ p2, x.block < W.heap.size := by obtain ⟨m, hm⟩ := k2; exact DataW.trod_lt m _ _ _ hm
  obtain ⟨pos, rfl, rfl, rfl, w1⟩ := open_int Tryf.underlying2 (hval 1 2 v1 rfl rfl) h1
  obtain ⟨off, rfl, rfl, rfl, w3⟩ := open_int Tryf.underlying2 (hval 3 2 v3 rfl rfl) h3
  obtain ⟨what, rfl, rfl, rfl, w4⟩ := open_string Tryf.underlying9 (hval 4 9 v4 rfl rfl) h4
  have b1 := bounds_i64 w1
  have b3 := bounds_i64 w3
  have b4 : what.size ≤ 9223372036854775807 := by unfold maxLen at w4; exact w4
  clear hA0 hval0
  refine (walk F.told a0 len0 cap0 pos a2 len2 cap2 off what aE aU W hF (open_bytes k0) (open_bytes k2) b4 b1.1 b1.2 b3.1 b3.2 hE hU hne hbE hbU).mono fun e W' ⟨he, bel⟩ => ?_
  subst he
  exact ⟨_, rfl, _, _, _, [], _, [], hW', trodAll_mk1 (shut_bool Tryf.underlying4 _), (trodAll_cons_mk (Below.trod laidOut (by kernel_rfl) (of_decide_eq_true (by kernel_rfl)) k0 bel lt0) (trodAll_cons_mk (shut_int Tryf.underlying2 w1) (trodAll_cons_mk (Below.trod laidOut (by kernel_rfl) (of_decide_eq_true (by kernel_rfl)) k2 bel lt2) (trodAll_cons_mk (shut_int Tryf.underlying2 w3) (trodAll_cons_mk (shut_string Tryf.underlying9 w4) trodAll_mk0))))), rfl, bel.frame _, fun h => by cases h⟩

theorem card : Rows.FnStreamFrontReadsTheBytesAtOffToldSaid :=
  Claim7.holds_of_told_tied_any_at .later 3 Tryf.f3 "fmt.errorf" [] [] _ _ _ _ _ (by kernel_rfl) rfl rfl rfl laidOut (by kernel_rfl) rfl ⟨rfl, rfl, rfl, rfl, rfl, rfl, rfl⟩ rfl rfl (by kernel_rfl) (by kernel_rfl) Tryf.func3 (by kernel_rfl)
    (of_decide_eq_true (by kernel_rfl)) (by unfold Func.isWrapper; first | (rw [if_pos (by decide +kernel)]; kernel_rfl) | (rw [if_neg (by decide +kernel)]; exact ⟨rfl, rfl⟩)) stops.symm rfl stopKnobs.symm (by kernel_rfl)
    (by kernel_rfl) (by kernel_rfl) (by kernel_rfl) (by kernel_rfl) (by kernel_rfl) (by kernel_rfl) (by kernel_rfl) (by kernel_rfl) (by kernel_rfl) rfl (by kernel_rfl) rfl rfl
    rfl rfl
    rfl (by kernel_rfl) (by kernel_rfl) (by kernel_rfl) (by decide) (by kernel_rfl) fnStreamFrontReadsTheBytesAtOff_row_tie
    (OpenClaim.moreEntering_of (by kernel_rfl) (by kernel_rfl) (by kernel_rfl) (by kernel_rfl) (by kernel_rfl) (by kernel_rfl) (by kernel_rfl) (by kernel_rfl) (by kernel_rfl) (by kernel_rfl))
    ⟨_, WideRow.started_initial, quiet _⟩
    (fun os started _ H enc _ => lifted os started H enc)
end Go.Proofs.Qxb6613781aFmt.frontLaw

namespace Go.Proofs.Qxb6613781aFmt
/-- THE STATEMENT: the told and tied card. -/
theorem fnStreamFrontReadsTheBytesAtOff_proved : Rows.FnStreamFrontReadsTheBytesAtOffToldSaid := frontLaw.card
end Go.Proofs.Qxb6613781aFmt
